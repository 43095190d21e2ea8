import Derived.Test.Qxb6614450aGlobItem
namespace Go.Proofs.Qxb6614450a.W
open Go.RowKit
set_option linter.unusedSimpArgs false

theorem wpList_build_eq {P : Program} {w : World} {ops : Array Oper} {rest : List Oper} {o : Oper} {a : Act} {Q : Exit → Act → World → Prop} (hgd : o.guard = none) (t : TypeId) (parts : Array (Nat × Operand)) (ho : o.op = .build t parts) (vs : Array (Nat × Value))
    (hv : (parts.map fun (i, x) => (i, a.eval x)) = vs) {v : Value} (hr : (Instr.build t vs).run P w = .ok v w) (k : wpList P ops Q rest (a.put o.dst v) w) : wpList P ops Q (o :: rest) a w := by
  refine wpList_plain hgd fun K hK => ?_
  unfold Oper.wp execOp
  simp only [ho, Sem.run_bind, Sem.run_pure, Result.andThen_ok, hv, hr]
  exact hK _ _ k

def peL (G : Glob) : List Value := idL G.id ++ [.int .u8 (G.typ : Nat), .int .i64 G.size, .int .i64 G.offset, .int .u32 (G.crc : Nat)]
def stL (G : Glob) : List Value := [.int .i64 G.data, .int .i64 G.dsize, .int .i64 G.packed, .int .i64 G.delta, .int .u32 (G.sum : Nat), .int .u8 (G.code : Nat), .bool G.held, .bool G.inl, .int .i64 G.eat, .int .i64 G.fin, .int .u32 (G.ecrc : Nat)]
def erL (G : Glob) : List Value := peL G ++ (stL G ++ [.int .i64 G.frm])

theorem build67 (G : Glob) (w : World) : (Instr.build 67 #[(0, .agg (idL G.id).toArray), (1, .int .u8 (G.typ : Nat)), (2, .int .i64 G.size), (3, .int .i64 G.offset), (4, .int .u32 (G.crc : Nat))]).run Try.prog w = .ok (.agg (peL G).toArray) w := by kernel_rfl
theorem build69 (G : Glob) (w : World) : (Instr.build 69 #[(0, .int .i64 G.data), (1, .int .i64 G.dsize), (2, .int .i64 G.packed), (3, .int .i64 G.delta), (4, .int .u32 (G.sum : Nat)), (5, .int .u8 (G.code : Nat)), (6, .bool G.held), (7, .bool G.inl), (8, .int .i64 G.eat), (9, .int .i64 G.fin), (10, .int .u32 (G.ecrc : Nat))]).run Try.prog w = .ok (.agg (stL G).toArray) w := by kernel_rfl
theorem build71 (G : Glob) (w : World) : (Instr.build 71 #[(0, .agg (peL G).toArray), (1, .agg (stL G).toArray), (2, .int .i64 G.frm)]).run Try.prog w = .ok (.agg (erL G).toArray) w := by kernel_rfl
theorem build73 (G : Glob) (w : World) : (Instr.build 73 #[(0, .int .i64 G.key), (1, .int .i64 G.base), (2, .bool G.wait), (3, .int .i64 G.entry), (4, .agg (erL G).toArray), (5, .agg (idL G.bid).toArray)]).run Try.prog w = .ok (.agg (globL G).toArray) w := by kernel_rfl

theorem range_new (w : World) (cs : List Value) (t : TypeId) : (w.alloc (.cells cs.toArray t)).rangeAt w.heap.size 0 cs := fun j v hv => by
  rw [Nat.zero_add, World.cell?_alloc_new]
  simpa using hv

attribute [irreducible] peL stL erL

set_option maxHeartbeats 4000000 in
set_option maxRecDepth 100000 in
theorem newGlob_calls (G : Glob) (w : World) :
    Calls Try.prog 27 #[.int .i64 G.key, .int .i64 G.base, .bool G.wait, .int .i64 G.entry, .agg (idL G.id).toArray, .int .u8 (G.typ : Nat), .int .i64 G.size, .int .i64 G.offset, .int .u32 (G.crc : Nat), .int .i64 G.data, .int .i64 G.dsize, .int .i64 G.packed, .int .i64 G.delta, .int .u32 (G.sum : Nat), .int .u8 (G.code : Nat), .bool G.held, .bool G.inl, .int .i64 G.eat, .int .i64 G.fin, .int .u32 (G.ecrc : Nat), .int .i64 G.frm, .agg (idL G.bid).toArray] w fun e w' => ∃ B, e = .returned (.pointer (some ⟨B, 0, none⟩)) ∧ Below w.heap.size w w' ∧ w.heap.size ≤ B ∧ w'.rangeAt B 0 (globL G) := by
  have R1 : Hid (((w.alloc (.cells (idL G.id).toArray 25)).alloc (.cells (idL G.bid).toArray 25)).rangeAt w.heap.size 0 (idL G.id)) := rangeAt_below (range_new w _ _) (below_alloc _ _)
  have R2 : Hid (((w.alloc (.cells (idL G.id).toArray 25)).alloc (.cells (idL G.bid).toArray 25)).rangeAt (w.heap.size + 1) 0 (idL G.bid)) := by have := range_new (w.alloc (.cells (idL G.id).toArray 25)) (idL G.bid) 25; show World.rangeAt _ _ _ _; simpa using this
  have FN : Hid (Below w.heap.size w (((w.alloc (.cells (idL G.id).toArray 25)).alloc (.cells (idL G.bid).toArray 25)).alloc (.cells (globL G).toArray 73)) ∧ (((w.alloc (.cells (idL G.id).toArray 25)).alloc (.cells (idL G.bid).toArray 25)).alloc (.cells (globL G).toArray 73)).rangeAt (w.heap.size + 1 + 1) 0 (globL G)) := by
    refine ⟨bthen (below_alloc _ _) (bthen (below_alloc _ _) (below_alloc _ _)), ?_⟩
    have := range_new ((w.alloc (.cells (idL G.id).toArray 25)).alloc (.cells (idL G.bid).toArray 25)) (globL G) 73
    simpa using this
  go_enter Try.func27, Try.ntmps27
  go_wp2_with (first
    | (refine wpList_load_mid rfl 25 (.tmp 26) ?_ w.heap.size 0 ?_ (idL G.id) _ ?_ Try.underlying25 rfl (szL25 G.id) ?_; (· rfl); (· kernel_rfl); (· exact R1.out))
    | (refine wpList_load_mid rfl 25 (.tmp 43) ?_ (w.heap.size + 1) 0 ?_ (idL G.bid) _ ?_ Try.underlying25 rfl (szL25 G.bid) ?_; (· rfl); (· kernel_rfl); (· exact R2.out))
    | (refine wpList_build_eq rfl 67 #[(0, .tmp 49), (1, .tmp 50), (2, .tmp 51), (3, .tmp 52), (4, .tmp 53)] ?_ #[(0, .agg (idL G.id).toArray), (1, .int .u8 (G.typ : Nat)), (2, .int .i64 G.size), (3, .int .i64 G.offset), (4, .int .u32 (G.crc : Nat))] ?_ (build67 G _) ?_; (· rfl); (· kernel_rfl))
    | (refine wpList_build_eq rfl 69 #[(0, .tmp 55), (1, .tmp 56), (2, .tmp 57), (3, .tmp 58), (4, .tmp 59), (5, .tmp 60), (6, .tmp 61), (7, .tmp 62), (8, .tmp 63), (9, .tmp 64), (10, .tmp 65)] ?_ #[(0, .int .i64 G.data), (1, .int .i64 G.dsize), (2, .int .i64 G.packed), (3, .int .i64 G.delta), (4, .int .u32 (G.sum : Nat)), (5, .int .u8 (G.code : Nat)), (6, .bool G.held), (7, .bool G.inl), (8, .int .i64 G.eat), (9, .int .i64 G.fin), (10, .int .u32 (G.ecrc : Nat))] ?_ (build69 G _) ?_; (· rfl); (· kernel_rfl))
    | (refine wpList_build_eq rfl 71 #[(0, .tmp 54), (1, .tmp 66), (2, .tmp 67)] ?_ #[(0, .agg (peL G).toArray), (1, .agg (stL G).toArray), (2, .int .i64 G.frm)] ?_ (build71 G _) ?_; (· rfl); (· kernel_rfl))
    | (refine wpList_build_eq rfl 73 #[(0, .tmp 45), (1, .tmp 46), (2, .tmp 47), (3, .tmp 48), (4, .tmp 68), (5, .tmp 69)] ?_ #[(0, .int .i64 G.key), (1, .int .i64 G.base), (2, .bool G.wait), (3, .int .i64 G.entry), (4, .agg (erL G).toArray), (5, .agg (idL G.bid).toArray)] ?_ (build73 G _) ?_; (· rfl); (· kernel_rfl)))
  go_ret
  exact ⟨w.heap.size + 2, rfl, FN.out.1, by omega, FN.out.2⟩


theorem globL_id {w : World} {b : Nat} {G : Glob} (h : w.rangeAt b 0 (globL G)) : w.rangeAt b 4 (idL G.id) := fun j v hv => by
  have hj := (List.getElem?_eq_some_iff.1 hv).1
  rw [idL_len] at hj
  refine glob_cell h (4 + j) v ?_
  show (([_, _, _, _] : List Value) ++ (idL G.id ++ _))[4 + j]? = _
  rw [List.getElem?_append_right (by simp), List.getElem?_append_left (by rw [idL_len]; simp; omega)]
  simpa using hv

theorem globL_bid {w : World} {b : Nat} {G : Glob} (h : w.rangeAt b 0 (globL G)) : w.rangeAt b 40 (idL G.bid) := fun j v hv => by
  have hj := (List.getElem?_eq_some_iff.1 hv).1
  rw [idL_len] at hj
  refine glob_cell h (40 + j) v ?_
  show (([_, _, _, _] : List Value) ++ (idL G.id ++ (([_, _, _, _, _, _, _, _, _, _, _, _, _, _, _, _] : List Value) ++ idL G.bid)))[40 + j]? = _
  rw [List.getElem?_append_right (by simp; omega), List.getElem?_append_right (by rw [idL_len]; simp; omega), List.getElem?_append_right (by rw [idL_len]; simp; omega)]
  simp only [idL_len, List.length_cons, List.length_nil]
  rw [show 40 + j - (0 + 1 + 1 + 1 + 1) - 20 - (0 + 1 + 1 + 1 + 1 + 1 + 1 + 1 + 1 + 1 + 1 + 1 + 1 + 1 + 1 + 1 + 1) = j by omega]
  exact hv

set_option maxHeartbeats 4000000 in
set_option maxRecDepth 100000 in
theorem putGlob_calls {w : World} {rb n : Nat} {t : Nat → Nat} (G : Glob) (hG : G.Ok) (hr : rb < w.heap.size) (hp : Part w rb n [] 0 t) (hn : 131 ≤ n) :
    Calls Try.prog 18 #[.agg (globL G).toArray, .slice (some ⟨rb, 0, none⟩) n n] w fun e w' => e = .returned (.tuple #[]) ∧ w.grownBy w' (some rb) ∧ Part w' rb n (rowB G) 0 t := by
  have c0 : (w.alloc (.cells (globL G).toArray 37)).cell? ⟨w.heap.size, 0, none⟩ = some (.int .i64 G.key) := glob_cell (range_new w (globL G) 37) 0 _ rfl
  have c1 : (w.alloc (.cells (globL G).toArray 37)).cell? ⟨w.heap.size, 1, none⟩ = some (.int .i64 G.base) := glob_cell (range_new w (globL G) 37) 1 _ rfl
  have c2 : (w.alloc (.cells (globL G).toArray 37)).cell? ⟨w.heap.size, 2, none⟩ = some (.bool G.wait) := glob_cell (range_new w (globL G) 37) 2 _ rfl
  have c3 : (w.alloc (.cells (globL G).toArray 37)).cell? ⟨w.heap.size, 3, none⟩ = some (.int .i64 G.entry) := glob_cell (range_new w (globL G) 37) 3 _ rfl
  have c24 : (w.alloc (.cells (globL G).toArray 37)).cell? ⟨w.heap.size, 24, none⟩ = some (.int .u8 (G.typ : Nat)) := glob_cell (range_new w (globL G) 37) 24 _ rfl
  have c25 : (w.alloc (.cells (globL G).toArray 37)).cell? ⟨w.heap.size, 25, none⟩ = some (.int .i64 G.size) := glob_cell (range_new w (globL G) 37) 25 _ rfl
  have c26 : (w.alloc (.cells (globL G).toArray 37)).cell? ⟨w.heap.size, 26, none⟩ = some (.int .i64 G.offset) := glob_cell (range_new w (globL G) 37) 26 _ rfl
  have c27 : (w.alloc (.cells (globL G).toArray 37)).cell? ⟨w.heap.size, 27, none⟩ = some (.int .u32 (G.crc : Nat)) := glob_cell (range_new w (globL G) 37) 27 _ rfl
  have c28 : (w.alloc (.cells (globL G).toArray 37)).cell? ⟨w.heap.size, 28, none⟩ = some (.int .i64 G.data) := glob_cell (range_new w (globL G) 37) 28 _ rfl
  have c29 : (w.alloc (.cells (globL G).toArray 37)).cell? ⟨w.heap.size, 29, none⟩ = some (.int .i64 G.dsize) := glob_cell (range_new w (globL G) 37) 29 _ rfl
  have c30 : (w.alloc (.cells (globL G).toArray 37)).cell? ⟨w.heap.size, 30, none⟩ = some (.int .i64 G.packed) := glob_cell (range_new w (globL G) 37) 30 _ rfl
  have c31 : (w.alloc (.cells (globL G).toArray 37)).cell? ⟨w.heap.size, 31, none⟩ = some (.int .i64 G.delta) := glob_cell (range_new w (globL G) 37) 31 _ rfl
  have c32 : (w.alloc (.cells (globL G).toArray 37)).cell? ⟨w.heap.size, 32, none⟩ = some (.int .u32 (G.sum : Nat)) := glob_cell (range_new w (globL G) 37) 32 _ rfl
  have c33 : (w.alloc (.cells (globL G).toArray 37)).cell? ⟨w.heap.size, 33, none⟩ = some (.int .u8 (G.code : Nat)) := glob_cell (range_new w (globL G) 37) 33 _ rfl
  have c34 : (w.alloc (.cells (globL G).toArray 37)).cell? ⟨w.heap.size, 34, none⟩ = some (.bool G.held) := glob_cell (range_new w (globL G) 37) 34 _ rfl
  have c35 : (w.alloc (.cells (globL G).toArray 37)).cell? ⟨w.heap.size, 35, none⟩ = some (.bool G.inl) := glob_cell (range_new w (globL G) 37) 35 _ rfl
  have c36 : (w.alloc (.cells (globL G).toArray 37)).cell? ⟨w.heap.size, 36, none⟩ = some (.int .i64 G.eat) := glob_cell (range_new w (globL G) 37) 36 _ rfl
  have c37 : (w.alloc (.cells (globL G).toArray 37)).cell? ⟨w.heap.size, 37, none⟩ = some (.int .i64 G.fin) := glob_cell (range_new w (globL G) 37) 37 _ rfl
  have c38 : (w.alloc (.cells (globL G).toArray 37)).cell? ⟨w.heap.size, 38, none⟩ = some (.int .u32 (G.ecrc : Nat)) := glob_cell (range_new w (globL G) 37) 38 _ rfl
  have c39 : (w.alloc (.cells (globL G).toArray 37)).cell? ⟨w.heap.size, 39, none⟩ = some (.int .i64 G.frm) := glob_cell (range_new w (globL G) 37) 39 _ rfl
  have R1 : Hid ((w.alloc (.cells (globL G).toArray 37)).rangeAt w.heap.size 4 (idL G.id)) := globL_id (range_new w (globL G) 37)
  have R2 : Hid ((w.alloc (.cells (globL G).toArray 37)).rangeAt w.heap.size 40 (idL G.bid)) := globL_bid (range_new w (globL G) 37)
  have HG : Hid G.Ok := hG
  have HP : Hid (Part w rb n [] 0 t) := hp
  have HB : Hid (Below w.heap.size w (w.alloc (.cells (globL G).toArray 37))) := below_alloc _ _
  clear hG hp
  go_enter Try.func18, Try.ntmps18
  go_wp2_with (first
    | (refine wpList_load_mid rfl 25 (.tmp 13) ?_ w.heap.size 4 ?_ (idL G.id) _ ?_ Try.underlying25 rfl (szL25 G.id) ?_; (· rfl); (· kernel_rfl); (· exact R1.out))
    | (refine wpList_load_mid rfl 25 (.tmp 47) ?_ w.heap.size 40 ?_ (idL G.bid) _ ?_ Try.underlying25 rfl (szL25 G.bid) ?_; (· rfl); (· kernel_rfl); (· exact R2.out)))
  generalize w.alloc (.cells (globL G).toArray 37) = W1 at *
  clear c0 c1 c2 c3 c24 c25 c26 c27 c28 c29 c30 c31 c32 c33 c34 c35 c36 c37 c38 c39 R1 R2
  refine (newGlob_calls G W1).mono ?_
  rintro e w2 ⟨B, rfl, hb2, hB, hR⟩
  have K2 : Hid (Below w.heap.size w w2) := bthen HB.out hb2
  have HR : Hid (w2.rangeAt B 0 (globL G)) := hR
  have HBB : Hid (W1.heap.size ≤ B) := hB
  clear hb2 hR hB
  go_wp2_with fail
  refine (ZZglobPut_calls (w := w2) (t := t) B G HG.out HR.out (by have := HBB.out; have := HB.out.size; omega) (by have := K2.out.size; omega) (HP.out.same (K2.out.block rb hr)) hn).mono ?_
  rintro e w3 ⟨rfl, h3⟩
  have F3 : Hid (w.grownBy w3 (some rb) ∧ Part w3 rb n (rowB G) 0 t) := ⟨grown_trans ⟨K2.out.os, K2.out.tape, K2.out.output, K2.out.size, fun i hi _ => K2.out.block i hi⟩ h3.1, h3.2⟩
  clear h3
  go_wp2_with fail
  go_end0
  exact ⟨rfl, F3.out⟩

end Go.Proofs.Qxb6614450a.W
