import Derived.Test.Qxb6614450aGlobInt
namespace Go.Proofs.Qxb6614450a.W
open Go.RowKit
set_option linter.unusedSimpArgs false

theorem glob_cell {w : World} {gb : Nat} {G : Glob} (h : w.rangeAt gb 0 (globL G)) (j : Nat) (v : Value) (hj : (globL G)[j]? = some v) : w.cell? ⟨gb, j, none⟩ = some v := by
  have := h j v hj
  rwa [Nat.zero_add] at this

theorem cell_grown {W w : World} {rb gb j : Nat} {v : Value} (h : W.cell? ⟨gb, j, none⟩ = some v) (hne : gb ≠ rb) (g : W.grownBy w (some rb)) : w.cell? ⟨gb, j, none⟩ = some v := by
  rw [World.cell?_of_block (a := ⟨gb, j, none⟩) (g.block gb (cell_lt h) (fun e => hne (by simpa using e)))]
  exact h

theorem range_grown {W w : World} {rb gb o : Nat} {cs : List Value} (h : W.rangeAt gb o cs) (hne : gb ≠ rb) (g : W.grownBy w (some rb)) : w.rangeAt gb o cs := fun j v hv => cell_grown (h j v hv) hne g

theorem idL_bytes (f : Nat → Nat) : idL f = bytesV (idB f) := by simp [idL, bytesV, idB]

theorem put64_at {W w : World} {sb rb n o p : Nat} {L : List Nat} {t : Nat → Nat} (m c v : Nat) (hv : v < 18446744073709551616) (hl : L.length = p) (h : Puts W w sb rb n L 8 t o) (hm : 8 ≤ m) :
    Calls Try.prog 44 #[.agg #[], .slice (some ⟨rb, p, none⟩) m c, .int .u64 (v : Nat)] w fun e w' => e = .returned (.tuple #[]) ∧ Puts W w' sb rb n (L ++ be 8 v) 0 t o := by
  subst hl
  exact put64_puts m c v hv h hm

theorem put32_at {W w : World} {sb rb n o p : Nat} {L : List Nat} {t : Nat → Nat} (m c v : Nat) (hv : v < 4294967296) (hl : L.length = p) (h : Puts W w sb rb n L 4 t o) (hm : 4 ≤ m) :
    Calls Try.prog 45 #[.agg #[], .slice (some ⟨rb, p, none⟩) m c, .int .u32 (v : Nat)] w fun e w' => e = .returned (.tuple #[]) ∧ Puts W w' sb rb n (L ++ be 4 v) 0 t o := by
  subst hl
  exact put32_puts m c v hv h hm

theorem Puts.closes8 {W w : World} {sb rb n o v : Nat} {L : List Nat} {t : Nat → Nat} (h : Puts W w sb rb n (L ++ be 8 v) 0 t o) : Puts W w sb rb n L 8 t o := by have := h.closes; rw [be_len] at this; exact this
theorem Puts.closes4 {W w : World} {sb rb n o v : Nat} {L : List Nat} {t : Nat → Nat} (h : Puts W w sb rb n (L ++ be 4 v) 0 t o) : Puts W w sb rb n L 4 t o := by have := h.closes; rw [be_len] at this; exact this

theorem size5 : (Try.prog.info? 5).map (·.size) = some 1 := by kernel_rfl

/-- copy of an id into the row. -/
theorem run_copy_id (dT sT ty : TypeId) (hu : Try.prog.underlying dT = some (.slice 5)) (w : World) (b o m c gb go : Nat) (f : Nat → Nat) (hm : 20 ≤ m) (hs : w.rangeAt gb go (idL f)) (ht : w.there b o 20) :
    (Builtin.copy_ #[dT, sT] ty #[.slice (some ⟨b, o, none⟩) m c, .slice (some ⟨gb, go, none⟩) 20 20]).run Try.prog w = .ok (.int .i64 20) (w.setCells b o (bytesV (idB f))) := by
  have h := run_copy_cells (P := Try.prog) w dT sT ty 5 b o m c ⟨gb, go, none⟩ 20 20 (idL f) hu size5 (by rw [idL_len]; exact (Nat.min_eq_left hm).symm) (fun j v hv => by rw [Addr.add_mid]; exact hs j v hv)
    (fun j hj => (ht j (by rw [idL_len] at hj; exact hj)).1) (fun j hj => (ht j (by rw [idL_len] at hj; exact hj)).2) (idL_cell f)
  rw [idL_len, idL_bytes] at h
  exact h

theorem wp_copy_eq {P : Program} {w : World} {o : Oper} {a : Act} {K : Act → World → Prop} {Q : Exit → Act → World → Prop} (d s : Operand) (t t' : TypeId)
    (ho : o.op = .call { callee := .builtin .copy, args := #[d, s], argTypes := #[t, t'] }) (v u : Value) (hd : a.eval d = v) (hs : a.eval s = u) {v' : Value} {w' : World}
    (hr : (Builtin.copy_ #[t, t'] o.type #[v, u]).run P w = .ok v' w') (h : K (a.put o.dst v') w') : o.wp P a w K Q := by
  unfold Oper.wp execOp
  simp only [ho, resolve, invoke, builtin, Sem.run_bind, Sem.run_pure, Result.andThen_ok, List.map_toArray, List.map_cons, List.map_nil, hd, hs, hr]
  exact h

theorem wpList_copy_eq {P : Program} {w : World} {ops : Array Oper} {rest : List Oper} {o : Oper} {a : Act} {Q : Exit → Act → World → Prop} (hgd : o.guard = none) (d s : Operand) (t t' : TypeId)
    (ho : o.op = .call { callee := .builtin .copy, args := #[d, s], argTypes := #[t, t'] }) (v u : Value) (hd : a.eval d = v) (hs : a.eval s = u) {v' : Value} {w' : World}
    (hr : (Builtin.copy_ #[t, t'] o.type #[v, u]).run P w = .ok v' w') (h : wpList P ops Q rest (a.put o.dst v') w') : wpList P ops Q (o :: rest) a w :=
  wpList_plain hgd fun _ hK => wp_copy_eq d s t t' ho v u hd hs hr (hK _ _ h)

set_option maxHeartbeats 8000000 in
set_option maxRecDepth 100000 in
theorem entPut_calls {W w : World} {sb rb n o : Nat} {L : List Nat} {t : Nat → Nat} (gb : Nat) (G : Glob) (hG : G.Ok) (hgl : W.rangeAt gb 0 (globL G)) (hne : gb ≠ rb) (h : Puts W w sb rb n L 0 t o) (hL : L.length = 25) (hn : 131 ≤ n) :
    Calls Try.prog 39 #[.pointer (some ⟨gb, 4, none⟩), .slice (some ⟨rb, 25, none⟩) 86 (n - 25)] w fun e w' => e = .returned (.tuple #[]) ∧ Puts W w' sb rb n (L ++ entB G) 0 t o := by
  have C24 : Hid (∀ w', W.grownBy w' (some rb) → w'.cell? ⟨gb, 24, none⟩ = some (.int .u8 (G.typ : Nat))) := fun w' g => cell_grown (glob_cell hgl 24 _ rfl) hne g
  have C25 : Hid (∀ w', W.grownBy w' (some rb) → w'.cell? ⟨gb, 25, none⟩ = some (.int .i64 G.size)) := fun w' g => cell_grown (glob_cell hgl 25 _ rfl) hne g
  have C26 : Hid (∀ w', W.grownBy w' (some rb) → w'.cell? ⟨gb, 26, none⟩ = some (.int .i64 G.offset)) := fun w' g => cell_grown (glob_cell hgl 26 _ rfl) hne g
  have C27 : Hid (∀ w', W.grownBy w' (some rb) → w'.cell? ⟨gb, 27, none⟩ = some (.int .u32 (G.crc : Nat))) := fun w' g => cell_grown (glob_cell hgl 27 _ rfl) hne g
  have C28 : Hid (∀ w', W.grownBy w' (some rb) → w'.cell? ⟨gb, 28, none⟩ = some (.int .i64 G.data)) := fun w' g => cell_grown (glob_cell hgl 28 _ rfl) hne g
  have C29 : Hid (∀ w', W.grownBy w' (some rb) → w'.cell? ⟨gb, 29, none⟩ = some (.int .i64 G.dsize)) := fun w' g => cell_grown (glob_cell hgl 29 _ rfl) hne g
  have C31 : Hid (∀ w', W.grownBy w' (some rb) → w'.cell? ⟨gb, 31, none⟩ = some (.int .i64 G.delta)) := fun w' g => cell_grown (glob_cell hgl 31 _ rfl) hne g
  have C32 : Hid (∀ w', W.grownBy w' (some rb) → w'.cell? ⟨gb, 32, none⟩ = some (.int .u32 (G.sum : Nat))) := fun w' g => cell_grown (glob_cell hgl 32 _ rfl) hne g
  have C37 : Hid (∀ w', W.grownBy w' (some rb) → w'.cell? ⟨gb, 37, none⟩ = some (.int .i64 G.fin)) := fun w' g => cell_grown (glob_cell hgl 37 _ rfl) hne g
  have C39 : Hid (∀ w', W.grownBy w' (some rb) → w'.cell? ⟨gb, 39, none⟩ = some (.int .i64 G.frm)) := fun w' g => cell_grown (glob_cell hgl 39 _ rfl) hne g
  have u_size := u64_wrap G.size
  have l_size : Hid (u64 G.size < 18446744073709551616) := u64_lt _
  have u_offset := u64_wrap G.offset
  have l_offset : Hid (u64 G.offset < 18446744073709551616) := u64_lt _
  have u_data := u64_wrap G.data
  have l_data : Hid (u64 G.data < 18446744073709551616) := u64_lt _
  have u_dsize := u64_wrap G.dsize
  have l_dsize : Hid (u64 G.dsize < 18446744073709551616) := u64_lt _
  have u_delta := u64_wrap G.delta
  have l_delta : Hid (u64 G.delta < 18446744073709551616) := u64_lt _
  have u_fin := u64_wrap G.fin
  have l_fin : Hid (u64 G.fin < 18446744073709551616) := u64_lt _
  have u_frm := u64_wrap G.frm
  have l_frm : Hid (u64 G.frm < 18446744073709551616) := u64_lt _
  have CB : Hid (∀ w', W.grownBy w' (some rb) → Calls Try.prog 46 #[.pointer (some ⟨gb, 28, none⟩)] w' fun e w'' => e = .returned (.int .u8 (codeB G : Nat)) ∧ w'' = w') := fun w' g =>
    codeByte_calls gb G hG.code w' (cell_grown (glob_cell hgl 33 _ rfl) hne g) (cell_grown (glob_cell hgl 34 _ rfl) hne g) (cell_grown (glob_cell hgl 35 _ rfl) hne g)
  have HE : Hid (entB G = idB G.id ++ ([G.typ] ++ (be 8 (u64 G.size) ++ (be 8 (u64 G.offset) ++ (be 4 G.crc ++ (be 8 (u64 G.data) ++ (be 8 (u64 G.dsize) ++ (be 8 (u64 G.fin) ++ (be 8 (u64 G.delta) ++ (be 4 G.sum ++ ([codeB G] ++ be 8 (u64 G.frm)))))))))))) := rfl
  have HR : Hid (∀ w', W.grownBy w' (some rb) → w'.rangeAt gb 4 (idL G.id)) := fun w' g => range_grown (fun j v hv => by
    have hj := (List.getElem?_eq_some_iff.1 hv).1
    rw [idL_len] at hj
    refine glob_cell hgl (4 + j) v ?_
    show (([_, _, _, _] : List Value) ++ (idL G.id ++ _))[4 + j]? = _
    rw [List.getElem?_append_right (by simp), List.getElem?_append_left (by rw [idL_len]; simp; omega)]
    simpa using hv) hne g
  have g_crc : Hid (G.crc < 4294967296) := hG.crc
  have g_sum : Hid (G.sum < 4294967296) := hG.sum
  generalize u64 G.size = v_size at *
  generalize u64 G.offset = v_offset at *
  generalize u64 G.data = v_data at *
  generalize u64 G.dsize = v_dsize at *
  generalize u64 G.delta = v_delta at *
  generalize u64 G.fin = v_fin at *
  generalize u64 G.frm = v_frm at *
  generalize codeB G = cB at *
  obtain ⟨q, hq⟩ : ∃ q, q = n - 25 := ⟨_, rfl⟩
  rw [← hq]
  have hq86 : 86 ≤ q := by omega
  have nq21 : ¬ q = 21 := by omega
  have nq29 : ¬ q = 29 := by omega
  have nq37 : ¬ q = 37 := by omega
  have nq41 : ¬ q = 41 := by omega
  have nq49 : ¬ q = 49 := by omega
  have nq57 : ¬ q = 57 := by omega
  have nq65 : ¬ q = 65 := by omega
  have nq73 : ¬ q = 73 := by omega
  have nq78 : ¬ q = 78 := by omega
  obtain ⟨L1, hL1⟩ : ∃ L1, L1 = L ++ idB G.id := ⟨_, rfl⟩
  have n1 : Hid (L1.length = 45) := by show _ = _; rw [hL1, List.length_append, idB_len, hL]
  have P1 : Hid (Puts W (w.setCells rb 25 (bytesV (idB G.id))) sb rb n L1 0 t o) := by
    have := Puts.put (vs := idB G.id) (h.opens (k := (idB G.id).length) (by rw [idB_len]; omega))
    rw [hL] at this
    rw [hL1]
    exact this
  have RC : Hid ((Builtin.copy_ #[38, 38] 3 #[.slice (some ⟨rb, 25, none⟩) 86 q, .slice (some ⟨gb, 4, none⟩) 20 20]).run Try.prog w = .ok (.int .i64 20) (w.setCells rb 25 (bytesV (idB G.id)))) :=
    run_copy_id 38 38 3 Try.underlying38 w rb 25 86 q gb 4 G.id (by omega) (HR.out w h.gr) (there_mid h.pt.there (by omega))
  have HL1 : Hid (L1 = L ++ idB G.id) := hL1
  clear hL1 HR hG hgl h hL hq
  have hn' : Hid (131 ≤ n) := hn
  clear hn
  go_enter Try.func39, Try.ntmps39
  go_wp2_with (refine wpList_copy_eq rfl (.tmp 6) (.tmp 11) 38 38 ?_ (.slice (some ⟨rb, 25, none⟩) 86 q) (.slice (some ⟨gb, 4, none⟩) 20 20) ?_ ?_ RC.out ?_; (· rfl); (· kernel_rfl); (· kernel_rfl); (generalize w.setCells rb 25 (bytesV (idB G.id)) = w1 at *); (have c24 := C24.out _ P1.out.gr); (obtain ⟨x45, e45⟩ := Option.isSome_iff_exists.1 (P1.out.pt.there 45 (by have := hn'.out; omega)).1); (have f45 := (P1.out.pt.there 45 (by have := hn'.out; omega)).2); (rw [Nat.zero_add] at e45 f45))
  have PL1 := P1
  have nL1 := n1
  clear P1 n1 RC C24
  have PL2 : Hid (Puts W (w1.setCell ⟨rb, 45, none⟩ (.int .u8 (G.typ : Nat))) sb rb n (L1 ++ [G.typ]) 0 t o) := by
    have := Puts.put (vs := [G.typ]) (PL1.out.opens (k := 1) (by rw [nL1.out]; have := hn'.out; omega))
    rw [nL1.out] at this
    exact this
  obtain ⟨L2, hL2⟩ : ∃ l, l = L1 ++ [G.typ] := ⟨_, rfl⟩
  rw [← hL2] at PL2
  have nL2 : Hid (L2.length = 46) := by show _ = _; rw [hL2, List.length_append, nL1.out]; rfl
  have HL2 : Hid (L2 = L1 ++ [G.typ]) := hL2
  clear hL2 PL1 nL1 c24 e45 f45
  generalize w1.setCell ⟨rb, 45, none⟩ (.int .u8 (G.typ : Nat)) = w2 at *
  have HS : Hid (Puts W w2.drew sb rb n L2 8 t o) := (PL2.out.opens (by rw [nL2.out]; have := hn'.out; omega)).drew
  have CC : Hid (∀ W', Puts W W' sb rb n L2 8 t o → Calls Try.prog 44 #[.agg #[], .slice (some ⟨rb, 46, none⟩) 65 (q - 21), .int .u64 (v_size : Nat)] W' fun e w' => e = .returned (.tuple #[]) ∧ Puts W w' sb rb n (L2 ++ be 8 v_size) 0 t o) := fun W' h' =>
    put64_at _ _ _ l_size.out nL2.out h' (by omega)
  refine wp_region_held_drew (S := fun w' => Puts W w' sb rb n L2 8 t o) (by kernel_rfl) HS.out (fun hHeld => ?_)
  refine wpAnyH_take (i := 0) (v := .agg #[]) rfl (by kernel_rfl) (by kernel_rfl) (by kernel_rfl) (fun _ _ _ h => h) (Or.inl ⟨by kernel_rfl, fun w hSw => by go_simp⟩) (by assumption) ?_
  change wpAnyH _ _ _ _ _ _ _ (Act.put _ (some 20) _) _
  try simp only [Act.put, List.setIfInBounds_toArray, List.set_cons_zero, List.set_cons_succ]
  refine wpAnyH_take (i := 1) (v := .slice (some ⟨rb, 25, none⟩) 86 q) rfl (by kernel_rfl) (by kernel_rfl) (by kernel_rfl) (fun _ _ _ h => h) (Or.inl ⟨by kernel_rfl, fun w hSw => by go_simp⟩) (by assumption) ?_
  change wpAnyH _ _ _ _ _ _ _ (Act.put _ (some 21) _) _
  try simp only [Act.put, List.setIfInBounds_toArray, List.set_cons_zero, List.set_cons_succ]
  refine wpAnyH_take (i := 2) (v := .slice (some ⟨rb, 46, none⟩) 65 (q - 21)) rfl (by kernel_rfl) (by kernel_rfl) (by kernel_rfl) (fun _ _ _ h => h) (Or.inl ⟨by kernel_rfl, fun w hSw => by go_simp⟩) (by assumption) ?_
  change wpAnyH _ _ _ _ _ _ _ (Act.put _ (some 22) _) _
  try simp only [Act.put, List.setIfInBounds_toArray, List.set_cons_zero, List.set_cons_succ]
  refine wpAnyH_take (i := 3) (v := .pointer (some ⟨gb, 4, none⟩)) rfl (by kernel_rfl) (by kernel_rfl) (by kernel_rfl) (fun _ _ _ h => h) (Or.inl ⟨by kernel_rfl, fun w hSw => by go_simp⟩) (by assumption) ?_
  change wpAnyH _ _ _ _ _ _ _ (Act.put _ (some 23) _) _
  try simp only [Act.put, List.setIfInBounds_toArray, List.set_cons_zero, List.set_cons_succ]
  refine wpAnyH_take (i := 4) (v := .pointer (some ⟨gb, 4, none⟩)) rfl (by kernel_rfl) (by kernel_rfl) (by kernel_rfl) (fun _ _ _ h => h) (Or.inl ⟨by kernel_rfl, fun w hSw => by go_simp⟩) (by assumption) ?_
  change wpAnyH _ _ _ _ _ _ _ (Act.put _ (some 24) _) _
  try simp only [Act.put, List.setIfInBounds_toArray, List.set_cons_zero, List.set_cons_succ]
  refine wpAnyH_take (i := 5) (v := .pointer (some ⟨gb, 4, none⟩)) rfl (by kernel_rfl) (by kernel_rfl) (by kernel_rfl) (fun _ _ _ h => h) (Or.inl ⟨by kernel_rfl, fun w hSw => by go_simp⟩) (by assumption) ?_
  change wpAnyH _ _ _ _ _ _ _ (Act.put _ (some 25) _) _
  try simp only [Act.put, List.setIfInBounds_toArray, List.set_cons_zero, List.set_cons_succ]
  refine wpAnyH_take (i := 6) (v := .pointer (some ⟨gb, 25, none⟩)) rfl (by kernel_rfl) (by kernel_rfl) (by kernel_rfl) (fun _ _ _ h => h) (Or.inl ⟨by kernel_rfl, fun w hSw => by go_simp⟩) (by assumption) ?_
  change wpAnyH _ _ _ _ _ _ _ (Act.put _ (some 26) _) _
  try simp only [Act.put, List.setIfInBounds_toArray, List.set_cons_zero, List.set_cons_succ]
  refine wpAnyH_take (i := 7) (v := .int .i64 G.size) rfl (by kernel_rfl) (by kernel_rfl) (by kernel_rfl) (fun _ _ _ h => h) (Or.inl ⟨by kernel_rfl, fun w hSw => by have := C25.out _ hSw.gr; go_simp⟩) (by assumption) ?_
  change wpAnyH _ _ _ _ _ _ _ (Act.put _ (some 27) _) _
  try simp only [Act.put, List.setIfInBounds_toArray, List.set_cons_zero, List.set_cons_succ]
  refine wpAnyH_take (i := 8) (v := .int .u64 (v_size : Nat)) rfl (by kernel_rfl) (by kernel_rfl) (by kernel_rfl) (fun _ _ _ h => h) (Or.inl ⟨by kernel_rfl, fun w hSw => by go_simp⟩) (by assumption) ?_
  change wpAnyH _ _ _ _ _ _ _ (Act.put _ (some 28) _) _
  try simp only [Act.put, List.setIfInBounds_toArray, List.set_cons_zero, List.set_cons_succ]
  refine wpAnyH_ready (rs := [9]) (by kernel_rfl) (by simp) ?_
  refine AllReadyH.cons (o := _) rfl (fun K hK => ?_) AllReadyH.nil
  rw [if_pos (by kernel_rfl)]
  go_simp
  refine (CC.out _ (by assumption)).mono ?_
  rintro e w3 ⟨rfl, hw3⟩
  refine hK.out _ _ (hw3.closes8) (fun hHeldw3 => ?_)
  clear hK K
  try simp only [Act.put, List.setIfInBounds_toArray, List.set_cons_zero, List.set_cons_succ]
  refine wpAnyH_done (by kernel_rfl) ?_ _
  obtain ⟨L3, hL3⟩ : ∃ l, l = L2 ++ be 8 v_size := ⟨_, rfl⟩
  rw [← hL3] at hw3
  have PL3 : Hid (Puts W w3 sb rb n L3 0 t o) := hw3
  have nL3 : Hid (L3.length = 54) := by show _ = _; rw [hL3, List.length_append, be_len, nL2.out]
  have HL3 : Hid (L3 = L2 ++ be 8 v_size) := hL3
  clear hL3 hw3 CC HS hHeld hHeldw3 PL2 nL2
  go_wp2_with fail
  have HS : Hid (Puts W w3.drew sb rb n L3 8 t o) := (PL3.out.opens (by rw [nL3.out]; have := hn'.out; omega)).drew
  have CC : Hid (∀ W', Puts W W' sb rb n L3 8 t o → Calls Try.prog 44 #[.agg #[], .slice (some ⟨rb, 54, none⟩) 57 (q - 29), .int .u64 (v_offset : Nat)] W' fun e w' => e = .returned (.tuple #[]) ∧ Puts W w' sb rb n (L3 ++ be 8 v_offset) 0 t o) := fun W' h' =>
    put64_at _ _ _ l_offset.out nL3.out h' (by omega)
  refine wp_region_held_drew (S := fun w' => Puts W w' sb rb n L3 8 t o) (by kernel_rfl) HS.out (fun hHeld => ?_)
  refine wpAnyH_take (i := 0) (v := .agg #[]) rfl (by kernel_rfl) (by kernel_rfl) (by kernel_rfl) (fun _ _ _ h => h) (Or.inl ⟨by kernel_rfl, fun w hSw => by go_simp⟩) (by assumption) ?_
  change wpAnyH _ _ _ _ _ _ _ (Act.put _ (some 30) _) _
  try simp only [Act.put, List.setIfInBounds_toArray, List.set_cons_zero, List.set_cons_succ]
  refine wpAnyH_take (i := 1) (v := .slice (some ⟨rb, 25, none⟩) 86 q) rfl (by kernel_rfl) (by kernel_rfl) (by kernel_rfl) (fun _ _ _ h => h) (Or.inl ⟨by kernel_rfl, fun w hSw => by go_simp⟩) (by assumption) ?_
  change wpAnyH _ _ _ _ _ _ _ (Act.put _ (some 31) _) _
  try simp only [Act.put, List.setIfInBounds_toArray, List.set_cons_zero, List.set_cons_succ]
  refine wpAnyH_take (i := 2) (v := .slice (some ⟨rb, 54, none⟩) 57 (q - 29)) rfl (by kernel_rfl) (by kernel_rfl) (by kernel_rfl) (fun _ _ _ h => h) (Or.inl ⟨by kernel_rfl, fun w hSw => by go_simp⟩) (by assumption) ?_
  change wpAnyH _ _ _ _ _ _ _ (Act.put _ (some 32) _) _
  try simp only [Act.put, List.setIfInBounds_toArray, List.set_cons_zero, List.set_cons_succ]
  refine wpAnyH_take (i := 3) (v := .pointer (some ⟨gb, 4, none⟩)) rfl (by kernel_rfl) (by kernel_rfl) (by kernel_rfl) (fun _ _ _ h => h) (Or.inl ⟨by kernel_rfl, fun w hSw => by go_simp⟩) (by assumption) ?_
  change wpAnyH _ _ _ _ _ _ _ (Act.put _ (some 33) _) _
  try simp only [Act.put, List.setIfInBounds_toArray, List.set_cons_zero, List.set_cons_succ]
  refine wpAnyH_take (i := 4) (v := .pointer (some ⟨gb, 4, none⟩)) rfl (by kernel_rfl) (by kernel_rfl) (by kernel_rfl) (fun _ _ _ h => h) (Or.inl ⟨by kernel_rfl, fun w hSw => by go_simp⟩) (by assumption) ?_
  change wpAnyH _ _ _ _ _ _ _ (Act.put _ (some 34) _) _
  try simp only [Act.put, List.setIfInBounds_toArray, List.set_cons_zero, List.set_cons_succ]
  refine wpAnyH_take (i := 5) (v := .pointer (some ⟨gb, 4, none⟩)) rfl (by kernel_rfl) (by kernel_rfl) (by kernel_rfl) (fun _ _ _ h => h) (Or.inl ⟨by kernel_rfl, fun w hSw => by go_simp⟩) (by assumption) ?_
  change wpAnyH _ _ _ _ _ _ _ (Act.put _ (some 35) _) _
  try simp only [Act.put, List.setIfInBounds_toArray, List.set_cons_zero, List.set_cons_succ]
  refine wpAnyH_take (i := 6) (v := .pointer (some ⟨gb, 26, none⟩)) rfl (by kernel_rfl) (by kernel_rfl) (by kernel_rfl) (fun _ _ _ h => h) (Or.inl ⟨by kernel_rfl, fun w hSw => by go_simp⟩) (by assumption) ?_
  change wpAnyH _ _ _ _ _ _ _ (Act.put _ (some 36) _) _
  try simp only [Act.put, List.setIfInBounds_toArray, List.set_cons_zero, List.set_cons_succ]
  refine wpAnyH_take (i := 7) (v := .int .i64 G.offset) rfl (by kernel_rfl) (by kernel_rfl) (by kernel_rfl) (fun _ _ _ h => h) (Or.inl ⟨by kernel_rfl, fun w hSw => by have := C26.out _ hSw.gr; go_simp⟩) (by assumption) ?_
  change wpAnyH _ _ _ _ _ _ _ (Act.put _ (some 37) _) _
  try simp only [Act.put, List.setIfInBounds_toArray, List.set_cons_zero, List.set_cons_succ]
  refine wpAnyH_take (i := 8) (v := .int .u64 (v_offset : Nat)) rfl (by kernel_rfl) (by kernel_rfl) (by kernel_rfl) (fun _ _ _ h => h) (Or.inl ⟨by kernel_rfl, fun w hSw => by go_simp⟩) (by assumption) ?_
  change wpAnyH _ _ _ _ _ _ _ (Act.put _ (some 38) _) _
  try simp only [Act.put, List.setIfInBounds_toArray, List.set_cons_zero, List.set_cons_succ]
  refine wpAnyH_ready (rs := [9]) (by kernel_rfl) (by simp) ?_
  refine AllReadyH.cons (o := _) rfl (fun K hK => ?_) AllReadyH.nil
  rw [if_pos (by kernel_rfl)]
  go_simp
  refine (CC.out _ (by assumption)).mono ?_
  rintro e w4 ⟨rfl, hw4⟩
  refine hK.out _ _ (hw4.closes8) (fun hHeldw4 => ?_)
  clear hK K
  try simp only [Act.put, List.setIfInBounds_toArray, List.set_cons_zero, List.set_cons_succ]
  refine wpAnyH_done (by kernel_rfl) ?_ _
  obtain ⟨L4, hL4⟩ : ∃ l, l = L3 ++ be 8 v_offset := ⟨_, rfl⟩
  rw [← hL4] at hw4
  have PL4 : Hid (Puts W w4 sb rb n L4 0 t o) := hw4
  have nL4 : Hid (L4.length = 62) := by show _ = _; rw [hL4, List.length_append, be_len, nL3.out]
  have HL4 : Hid (L4 = L3 ++ be 8 v_offset) := hL4
  clear hL4 hw4 CC HS hHeld hHeldw4 PL3 nL3
  go_wp2_with fail
  have HS : Hid (Puts W w4.drew sb rb n L4 4 t o) := (PL4.out.opens (by rw [nL4.out]; have := hn'.out; omega)).drew
  have CC : Hid (∀ W', Puts W W' sb rb n L4 4 t o → Calls Try.prog 45 #[.agg #[], .slice (some ⟨rb, 62, none⟩) 49 (q - 37), .int .u32 (G.crc : Nat)] W' fun e w' => e = .returned (.tuple #[]) ∧ Puts W w' sb rb n (L4 ++ be 4 G.crc) 0 t o) := fun W' h' =>
    put32_at _ _ _ g_crc.out nL4.out h' (by omega)
  refine wp_region_held_drew (S := fun w' => Puts W w' sb rb n L4 4 t o) (by kernel_rfl) HS.out (fun hHeld => ?_)
  refine wpAnyH_take (i := 0) (v := .agg #[]) rfl (by kernel_rfl) (by kernel_rfl) (by kernel_rfl) (fun _ _ _ h => h) (Or.inl ⟨by kernel_rfl, fun w hSw => by go_simp⟩) (by assumption) ?_
  change wpAnyH _ _ _ _ _ _ _ (Act.put _ (some 40) _) _
  try simp only [Act.put, List.setIfInBounds_toArray, List.set_cons_zero, List.set_cons_succ]
  refine wpAnyH_take (i := 1) (v := .slice (some ⟨rb, 25, none⟩) 86 q) rfl (by kernel_rfl) (by kernel_rfl) (by kernel_rfl) (fun _ _ _ h => h) (Or.inl ⟨by kernel_rfl, fun w hSw => by go_simp⟩) (by assumption) ?_
  change wpAnyH _ _ _ _ _ _ _ (Act.put _ (some 41) _) _
  try simp only [Act.put, List.setIfInBounds_toArray, List.set_cons_zero, List.set_cons_succ]
  refine wpAnyH_take (i := 2) (v := .slice (some ⟨rb, 62, none⟩) 49 (q - 37)) rfl (by kernel_rfl) (by kernel_rfl) (by kernel_rfl) (fun _ _ _ h => h) (Or.inl ⟨by kernel_rfl, fun w hSw => by go_simp⟩) (by assumption) ?_
  change wpAnyH _ _ _ _ _ _ _ (Act.put _ (some 42) _) _
  try simp only [Act.put, List.setIfInBounds_toArray, List.set_cons_zero, List.set_cons_succ]
  refine wpAnyH_take (i := 3) (v := .pointer (some ⟨gb, 4, none⟩)) rfl (by kernel_rfl) (by kernel_rfl) (by kernel_rfl) (fun _ _ _ h => h) (Or.inl ⟨by kernel_rfl, fun w hSw => by go_simp⟩) (by assumption) ?_
  change wpAnyH _ _ _ _ _ _ _ (Act.put _ (some 43) _) _
  try simp only [Act.put, List.setIfInBounds_toArray, List.set_cons_zero, List.set_cons_succ]
  refine wpAnyH_take (i := 4) (v := .pointer (some ⟨gb, 4, none⟩)) rfl (by kernel_rfl) (by kernel_rfl) (by kernel_rfl) (fun _ _ _ h => h) (Or.inl ⟨by kernel_rfl, fun w hSw => by go_simp⟩) (by assumption) ?_
  change wpAnyH _ _ _ _ _ _ _ (Act.put _ (some 44) _) _
  try simp only [Act.put, List.setIfInBounds_toArray, List.set_cons_zero, List.set_cons_succ]
  refine wpAnyH_take (i := 5) (v := .pointer (some ⟨gb, 4, none⟩)) rfl (by kernel_rfl) (by kernel_rfl) (by kernel_rfl) (fun _ _ _ h => h) (Or.inl ⟨by kernel_rfl, fun w hSw => by go_simp⟩) (by assumption) ?_
  change wpAnyH _ _ _ _ _ _ _ (Act.put _ (some 45) _) _
  try simp only [Act.put, List.setIfInBounds_toArray, List.set_cons_zero, List.set_cons_succ]
  refine wpAnyH_take (i := 6) (v := .pointer (some ⟨gb, 27, none⟩)) rfl (by kernel_rfl) (by kernel_rfl) (by kernel_rfl) (fun _ _ _ h => h) (Or.inl ⟨by kernel_rfl, fun w hSw => by go_simp⟩) (by assumption) ?_
  change wpAnyH _ _ _ _ _ _ _ (Act.put _ (some 46) _) _
  try simp only [Act.put, List.setIfInBounds_toArray, List.set_cons_zero, List.set_cons_succ]
  refine wpAnyH_take (i := 7) (v := .int .u32 (G.crc : Nat)) rfl (by kernel_rfl) (by kernel_rfl) (by kernel_rfl) (fun _ _ _ h => h) (Or.inl ⟨by kernel_rfl, fun w hSw => by have := C27.out _ hSw.gr; go_simp⟩) (by assumption) ?_
  change wpAnyH _ _ _ _ _ _ _ (Act.put _ (some 47) _) _
  try simp only [Act.put, List.setIfInBounds_toArray, List.set_cons_zero, List.set_cons_succ]
  refine wpAnyH_ready (rs := [8]) (by kernel_rfl) (by simp) ?_
  refine AllReadyH.cons (o := _) rfl (fun K hK => ?_) AllReadyH.nil
  rw [if_pos (by kernel_rfl)]
  go_simp
  refine (CC.out _ (by assumption)).mono ?_
  rintro e w5 ⟨rfl, hw5⟩
  refine hK.out _ _ (hw5.closes4) (fun hHeldw5 => ?_)
  clear hK K
  try simp only [Act.put, List.setIfInBounds_toArray, List.set_cons_zero, List.set_cons_succ]
  refine wpAnyH_done (by kernel_rfl) ?_ _
  obtain ⟨L5, hL5⟩ : ∃ l, l = L4 ++ be 4 G.crc := ⟨_, rfl⟩
  rw [← hL5] at hw5
  have PL5 : Hid (Puts W w5 sb rb n L5 0 t o) := hw5
  have nL5 : Hid (L5.length = 66) := by show _ = _; rw [hL5, List.length_append, be_len, nL4.out]
  have HL5 : Hid (L5 = L4 ++ be 4 G.crc) := hL5
  clear hL5 hw5 CC HS hHeld hHeldw5 PL4 nL4
  go_wp2_with fail
  have HS : Hid (Puts W w5.drew sb rb n L5 8 t o) := (PL5.out.opens (by rw [nL5.out]; have := hn'.out; omega)).drew
  have CC : Hid (∀ W', Puts W W' sb rb n L5 8 t o → Calls Try.prog 44 #[.agg #[], .slice (some ⟨rb, 66, none⟩) 45 (q - 41), .int .u64 (v_data : Nat)] W' fun e w' => e = .returned (.tuple #[]) ∧ Puts W w' sb rb n (L5 ++ be 8 v_data) 0 t o) := fun W' h' =>
    put64_at _ _ _ l_data.out nL5.out h' (by omega)
  refine wp_region_held_drew (S := fun w' => Puts W w' sb rb n L5 8 t o) (by kernel_rfl) HS.out (fun hHeld => ?_)
  refine wpAnyH_take (i := 0) (v := .agg #[]) rfl (by kernel_rfl) (by kernel_rfl) (by kernel_rfl) (fun _ _ _ h => h) (Or.inl ⟨by kernel_rfl, fun w hSw => by go_simp⟩) (by assumption) ?_
  change wpAnyH _ _ _ _ _ _ _ (Act.put _ (some 49) _) _
  try simp only [Act.put, List.setIfInBounds_toArray, List.set_cons_zero, List.set_cons_succ]
  refine wpAnyH_take (i := 1) (v := .slice (some ⟨rb, 25, none⟩) 86 q) rfl (by kernel_rfl) (by kernel_rfl) (by kernel_rfl) (fun _ _ _ h => h) (Or.inl ⟨by kernel_rfl, fun w hSw => by go_simp⟩) (by assumption) ?_
  change wpAnyH _ _ _ _ _ _ _ (Act.put _ (some 50) _) _
  try simp only [Act.put, List.setIfInBounds_toArray, List.set_cons_zero, List.set_cons_succ]
  refine wpAnyH_take (i := 2) (v := .slice (some ⟨rb, 66, none⟩) 45 (q - 41)) rfl (by kernel_rfl) (by kernel_rfl) (by kernel_rfl) (fun _ _ _ h => h) (Or.inl ⟨by kernel_rfl, fun w hSw => by go_simp⟩) (by assumption) ?_
  change wpAnyH _ _ _ _ _ _ _ (Act.put _ (some 51) _) _
  try simp only [Act.put, List.setIfInBounds_toArray, List.set_cons_zero, List.set_cons_succ]
  refine wpAnyH_take (i := 3) (v := .pointer (some ⟨gb, 4, none⟩)) rfl (by kernel_rfl) (by kernel_rfl) (by kernel_rfl) (fun _ _ _ h => h) (Or.inl ⟨by kernel_rfl, fun w hSw => by go_simp⟩) (by assumption) ?_
  change wpAnyH _ _ _ _ _ _ _ (Act.put _ (some 52) _) _
  try simp only [Act.put, List.setIfInBounds_toArray, List.set_cons_zero, List.set_cons_succ]
  refine wpAnyH_take (i := 4) (v := .pointer (some ⟨gb, 4, none⟩)) rfl (by kernel_rfl) (by kernel_rfl) (by kernel_rfl) (fun _ _ _ h => h) (Or.inl ⟨by kernel_rfl, fun w hSw => by go_simp⟩) (by assumption) ?_
  change wpAnyH _ _ _ _ _ _ _ (Act.put _ (some 53) _) _
  try simp only [Act.put, List.setIfInBounds_toArray, List.set_cons_zero, List.set_cons_succ]
  refine wpAnyH_take (i := 5) (v := .pointer (some ⟨gb, 28, none⟩)) rfl (by kernel_rfl) (by kernel_rfl) (by kernel_rfl) (fun _ _ _ h => h) (Or.inl ⟨by kernel_rfl, fun w hSw => by go_simp⟩) (by assumption) ?_
  change wpAnyH _ _ _ _ _ _ _ (Act.put _ (some 54) _) _
  try simp only [Act.put, List.setIfInBounds_toArray, List.set_cons_zero, List.set_cons_succ]
  refine wpAnyH_take (i := 6) (v := .pointer (some ⟨gb, 28, none⟩)) rfl (by kernel_rfl) (by kernel_rfl) (by kernel_rfl) (fun _ _ _ h => h) (Or.inl ⟨by kernel_rfl, fun w hSw => by go_simp⟩) (by assumption) ?_
  change wpAnyH _ _ _ _ _ _ _ (Act.put _ (some 55) _) _
  try simp only [Act.put, List.setIfInBounds_toArray, List.set_cons_zero, List.set_cons_succ]
  refine wpAnyH_take (i := 7) (v := .int .i64 G.data) rfl (by kernel_rfl) (by kernel_rfl) (by kernel_rfl) (fun _ _ _ h => h) (Or.inl ⟨by kernel_rfl, fun w hSw => by have := C28.out _ hSw.gr; go_simp⟩) (by assumption) ?_
  change wpAnyH _ _ _ _ _ _ _ (Act.put _ (some 56) _) _
  try simp only [Act.put, List.setIfInBounds_toArray, List.set_cons_zero, List.set_cons_succ]
  refine wpAnyH_take (i := 8) (v := .int .u64 (v_data : Nat)) rfl (by kernel_rfl) (by kernel_rfl) (by kernel_rfl) (fun _ _ _ h => h) (Or.inl ⟨by kernel_rfl, fun w hSw => by go_simp⟩) (by assumption) ?_
  change wpAnyH _ _ _ _ _ _ _ (Act.put _ (some 57) _) _
  try simp only [Act.put, List.setIfInBounds_toArray, List.set_cons_zero, List.set_cons_succ]
  refine wpAnyH_ready (rs := [9]) (by kernel_rfl) (by simp) ?_
  refine AllReadyH.cons (o := _) rfl (fun K hK => ?_) AllReadyH.nil
  rw [if_pos (by kernel_rfl)]
  go_simp
  refine (CC.out _ (by assumption)).mono ?_
  rintro e w6 ⟨rfl, hw6⟩
  refine hK.out _ _ (hw6.closes8) (fun hHeldw6 => ?_)
  clear hK K
  try simp only [Act.put, List.setIfInBounds_toArray, List.set_cons_zero, List.set_cons_succ]
  refine wpAnyH_done (by kernel_rfl) ?_ _
  obtain ⟨L6, hL6⟩ : ∃ l, l = L5 ++ be 8 v_data := ⟨_, rfl⟩
  rw [← hL6] at hw6
  have PL6 : Hid (Puts W w6 sb rb n L6 0 t o) := hw6
  have nL6 : Hid (L6.length = 74) := by show _ = _; rw [hL6, List.length_append, be_len, nL5.out]
  have HL6 : Hid (L6 = L5 ++ be 8 v_data) := hL6
  clear hL6 hw6 CC HS hHeld hHeldw6 PL5 nL5
  go_wp2_with fail
  have HS : Hid (Puts W w6.drew sb rb n L6 8 t o) := (PL6.out.opens (by rw [nL6.out]; have := hn'.out; omega)).drew
  have CC : Hid (∀ W', Puts W W' sb rb n L6 8 t o → Calls Try.prog 44 #[.agg #[], .slice (some ⟨rb, 74, none⟩) 37 (q - 49), .int .u64 (v_dsize : Nat)] W' fun e w' => e = .returned (.tuple #[]) ∧ Puts W w' sb rb n (L6 ++ be 8 v_dsize) 0 t o) := fun W' h' =>
    put64_at _ _ _ l_dsize.out nL6.out h' (by omega)
  refine wp_region_held_drew (S := fun w' => Puts W w' sb rb n L6 8 t o) (by kernel_rfl) HS.out (fun hHeld => ?_)
  refine wpAnyH_take (i := 0) (v := .agg #[]) rfl (by kernel_rfl) (by kernel_rfl) (by kernel_rfl) (fun _ _ _ h => h) (Or.inl ⟨by kernel_rfl, fun w hSw => by go_simp⟩) (by assumption) ?_
  change wpAnyH _ _ _ _ _ _ _ (Act.put _ (some 59) _) _
  try simp only [Act.put, List.setIfInBounds_toArray, List.set_cons_zero, List.set_cons_succ]
  refine wpAnyH_take (i := 1) (v := .slice (some ⟨rb, 25, none⟩) 86 q) rfl (by kernel_rfl) (by kernel_rfl) (by kernel_rfl) (fun _ _ _ h => h) (Or.inl ⟨by kernel_rfl, fun w hSw => by go_simp⟩) (by assumption) ?_
  change wpAnyH _ _ _ _ _ _ _ (Act.put _ (some 60) _) _
  try simp only [Act.put, List.setIfInBounds_toArray, List.set_cons_zero, List.set_cons_succ]
  refine wpAnyH_take (i := 2) (v := .slice (some ⟨rb, 74, none⟩) 37 (q - 49)) rfl (by kernel_rfl) (by kernel_rfl) (by kernel_rfl) (fun _ _ _ h => h) (Or.inl ⟨by kernel_rfl, fun w hSw => by go_simp⟩) (by assumption) ?_
  change wpAnyH _ _ _ _ _ _ _ (Act.put _ (some 61) _) _
  try simp only [Act.put, List.setIfInBounds_toArray, List.set_cons_zero, List.set_cons_succ]
  refine wpAnyH_take (i := 3) (v := .pointer (some ⟨gb, 4, none⟩)) rfl (by kernel_rfl) (by kernel_rfl) (by kernel_rfl) (fun _ _ _ h => h) (Or.inl ⟨by kernel_rfl, fun w hSw => by go_simp⟩) (by assumption) ?_
  change wpAnyH _ _ _ _ _ _ _ (Act.put _ (some 62) _) _
  try simp only [Act.put, List.setIfInBounds_toArray, List.set_cons_zero, List.set_cons_succ]
  refine wpAnyH_take (i := 4) (v := .pointer (some ⟨gb, 4, none⟩)) rfl (by kernel_rfl) (by kernel_rfl) (by kernel_rfl) (fun _ _ _ h => h) (Or.inl ⟨by kernel_rfl, fun w hSw => by go_simp⟩) (by assumption) ?_
  change wpAnyH _ _ _ _ _ _ _ (Act.put _ (some 63) _) _
  try simp only [Act.put, List.setIfInBounds_toArray, List.set_cons_zero, List.set_cons_succ]
  refine wpAnyH_take (i := 5) (v := .pointer (some ⟨gb, 28, none⟩)) rfl (by kernel_rfl) (by kernel_rfl) (by kernel_rfl) (fun _ _ _ h => h) (Or.inl ⟨by kernel_rfl, fun w hSw => by go_simp⟩) (by assumption) ?_
  change wpAnyH _ _ _ _ _ _ _ (Act.put _ (some 64) _) _
  try simp only [Act.put, List.setIfInBounds_toArray, List.set_cons_zero, List.set_cons_succ]
  refine wpAnyH_take (i := 6) (v := .pointer (some ⟨gb, 29, none⟩)) rfl (by kernel_rfl) (by kernel_rfl) (by kernel_rfl) (fun _ _ _ h => h) (Or.inl ⟨by kernel_rfl, fun w hSw => by go_simp⟩) (by assumption) ?_
  change wpAnyH _ _ _ _ _ _ _ (Act.put _ (some 65) _) _
  try simp only [Act.put, List.setIfInBounds_toArray, List.set_cons_zero, List.set_cons_succ]
  refine wpAnyH_take (i := 7) (v := .int .i64 G.dsize) rfl (by kernel_rfl) (by kernel_rfl) (by kernel_rfl) (fun _ _ _ h => h) (Or.inl ⟨by kernel_rfl, fun w hSw => by have := C29.out _ hSw.gr; go_simp⟩) (by assumption) ?_
  change wpAnyH _ _ _ _ _ _ _ (Act.put _ (some 66) _) _
  try simp only [Act.put, List.setIfInBounds_toArray, List.set_cons_zero, List.set_cons_succ]
  refine wpAnyH_take (i := 8) (v := .int .u64 (v_dsize : Nat)) rfl (by kernel_rfl) (by kernel_rfl) (by kernel_rfl) (fun _ _ _ h => h) (Or.inl ⟨by kernel_rfl, fun w hSw => by go_simp⟩) (by assumption) ?_
  change wpAnyH _ _ _ _ _ _ _ (Act.put _ (some 67) _) _
  try simp only [Act.put, List.setIfInBounds_toArray, List.set_cons_zero, List.set_cons_succ]
  refine wpAnyH_ready (rs := [9]) (by kernel_rfl) (by simp) ?_
  refine AllReadyH.cons (o := _) rfl (fun K hK => ?_) AllReadyH.nil
  rw [if_pos (by kernel_rfl)]
  go_simp
  refine (CC.out _ (by assumption)).mono ?_
  rintro e w7 ⟨rfl, hw7⟩
  refine hK.out _ _ (hw7.closes8) (fun hHeldw7 => ?_)
  clear hK K
  try simp only [Act.put, List.setIfInBounds_toArray, List.set_cons_zero, List.set_cons_succ]
  refine wpAnyH_done (by kernel_rfl) ?_ _
  obtain ⟨L7, hL7⟩ : ∃ l, l = L6 ++ be 8 v_dsize := ⟨_, rfl⟩
  rw [← hL7] at hw7
  have PL7 : Hid (Puts W w7 sb rb n L7 0 t o) := hw7
  have nL7 : Hid (L7.length = 82) := by show _ = _; rw [hL7, List.length_append, be_len, nL6.out]
  have HL7 : Hid (L7 = L6 ++ be 8 v_dsize) := hL7
  clear hL7 hw7 CC HS hHeld hHeldw7 PL6 nL6
  go_wp2_with fail
  have HS : Hid (Puts W w7.drew sb rb n L7 8 t o) := (PL7.out.opens (by rw [nL7.out]; have := hn'.out; omega)).drew
  have CC : Hid (∀ W', Puts W W' sb rb n L7 8 t o → Calls Try.prog 44 #[.agg #[], .slice (some ⟨rb, 82, none⟩) 29 (q - 57), .int .u64 (v_fin : Nat)] W' fun e w' => e = .returned (.tuple #[]) ∧ Puts W w' sb rb n (L7 ++ be 8 v_fin) 0 t o) := fun W' h' =>
    put64_at _ _ _ l_fin.out nL7.out h' (by omega)
  refine wp_region_held_drew (S := fun w' => Puts W w' sb rb n L7 8 t o) (by kernel_rfl) HS.out (fun hHeld => ?_)
  refine wpAnyH_take (i := 0) (v := .agg #[]) rfl (by kernel_rfl) (by kernel_rfl) (by kernel_rfl) (fun _ _ _ h => h) (Or.inl ⟨by kernel_rfl, fun w hSw => by go_simp⟩) (by assumption) ?_
  change wpAnyH _ _ _ _ _ _ _ (Act.put _ (some 69) _) _
  try simp only [Act.put, List.setIfInBounds_toArray, List.set_cons_zero, List.set_cons_succ]
  refine wpAnyH_take (i := 1) (v := .slice (some ⟨rb, 25, none⟩) 86 q) rfl (by kernel_rfl) (by kernel_rfl) (by kernel_rfl) (fun _ _ _ h => h) (Or.inl ⟨by kernel_rfl, fun w hSw => by go_simp⟩) (by assumption) ?_
  change wpAnyH _ _ _ _ _ _ _ (Act.put _ (some 70) _) _
  try simp only [Act.put, List.setIfInBounds_toArray, List.set_cons_zero, List.set_cons_succ]
  refine wpAnyH_take (i := 2) (v := .slice (some ⟨rb, 82, none⟩) 29 (q - 57)) rfl (by kernel_rfl) (by kernel_rfl) (by kernel_rfl) (fun _ _ _ h => h) (Or.inl ⟨by kernel_rfl, fun w hSw => by go_simp⟩) (by assumption) ?_
  change wpAnyH _ _ _ _ _ _ _ (Act.put _ (some 71) _) _
  try simp only [Act.put, List.setIfInBounds_toArray, List.set_cons_zero, List.set_cons_succ]
  refine wpAnyH_take (i := 3) (v := .pointer (some ⟨gb, 4, none⟩)) rfl (by kernel_rfl) (by kernel_rfl) (by kernel_rfl) (fun _ _ _ h => h) (Or.inl ⟨by kernel_rfl, fun w hSw => by go_simp⟩) (by assumption) ?_
  change wpAnyH _ _ _ _ _ _ _ (Act.put _ (some 72) _) _
  try simp only [Act.put, List.setIfInBounds_toArray, List.set_cons_zero, List.set_cons_succ]
  refine wpAnyH_take (i := 4) (v := .pointer (some ⟨gb, 4, none⟩)) rfl (by kernel_rfl) (by kernel_rfl) (by kernel_rfl) (fun _ _ _ h => h) (Or.inl ⟨by kernel_rfl, fun w hSw => by go_simp⟩) (by assumption) ?_
  change wpAnyH _ _ _ _ _ _ _ (Act.put _ (some 73) _) _
  try simp only [Act.put, List.setIfInBounds_toArray, List.set_cons_zero, List.set_cons_succ]
  refine wpAnyH_take (i := 5) (v := .pointer (some ⟨gb, 28, none⟩)) rfl (by kernel_rfl) (by kernel_rfl) (by kernel_rfl) (fun _ _ _ h => h) (Or.inl ⟨by kernel_rfl, fun w hSw => by go_simp⟩) (by assumption) ?_
  change wpAnyH _ _ _ _ _ _ _ (Act.put _ (some 74) _) _
  try simp only [Act.put, List.setIfInBounds_toArray, List.set_cons_zero, List.set_cons_succ]
  refine wpAnyH_take (i := 6) (v := .pointer (some ⟨gb, 37, none⟩)) rfl (by kernel_rfl) (by kernel_rfl) (by kernel_rfl) (fun _ _ _ h => h) (Or.inl ⟨by kernel_rfl, fun w hSw => by go_simp⟩) (by assumption) ?_
  change wpAnyH _ _ _ _ _ _ _ (Act.put _ (some 75) _) _
  try simp only [Act.put, List.setIfInBounds_toArray, List.set_cons_zero, List.set_cons_succ]
  refine wpAnyH_take (i := 7) (v := .int .i64 G.fin) rfl (by kernel_rfl) (by kernel_rfl) (by kernel_rfl) (fun _ _ _ h => h) (Or.inl ⟨by kernel_rfl, fun w hSw => by have := C37.out _ hSw.gr; go_simp⟩) (by assumption) ?_
  change wpAnyH _ _ _ _ _ _ _ (Act.put _ (some 76) _) _
  try simp only [Act.put, List.setIfInBounds_toArray, List.set_cons_zero, List.set_cons_succ]
  refine wpAnyH_take (i := 8) (v := .int .u64 (v_fin : Nat)) rfl (by kernel_rfl) (by kernel_rfl) (by kernel_rfl) (fun _ _ _ h => h) (Or.inl ⟨by kernel_rfl, fun w hSw => by go_simp⟩) (by assumption) ?_
  change wpAnyH _ _ _ _ _ _ _ (Act.put _ (some 77) _) _
  try simp only [Act.put, List.setIfInBounds_toArray, List.set_cons_zero, List.set_cons_succ]
  refine wpAnyH_ready (rs := [9]) (by kernel_rfl) (by simp) ?_
  refine AllReadyH.cons (o := _) rfl (fun K hK => ?_) AllReadyH.nil
  rw [if_pos (by kernel_rfl)]
  go_simp
  refine (CC.out _ (by assumption)).mono ?_
  rintro e w8 ⟨rfl, hw8⟩
  refine hK.out _ _ (hw8.closes8) (fun hHeldw8 => ?_)
  clear hK K
  try simp only [Act.put, List.setIfInBounds_toArray, List.set_cons_zero, List.set_cons_succ]
  refine wpAnyH_done (by kernel_rfl) ?_ _
  obtain ⟨L8, hL8⟩ : ∃ l, l = L7 ++ be 8 v_fin := ⟨_, rfl⟩
  rw [← hL8] at hw8
  have PL8 : Hid (Puts W w8 sb rb n L8 0 t o) := hw8
  have nL8 : Hid (L8.length = 90) := by show _ = _; rw [hL8, List.length_append, be_len, nL7.out]
  have HL8 : Hid (L8 = L7 ++ be 8 v_fin) := hL8
  clear hL8 hw8 CC HS hHeld hHeldw8 PL7 nL7
  go_wp2_with fail
  have HS : Hid (Puts W w8.drew sb rb n L8 8 t o) := (PL8.out.opens (by rw [nL8.out]; have := hn'.out; omega)).drew
  have CC : Hid (∀ W', Puts W W' sb rb n L8 8 t o → Calls Try.prog 44 #[.agg #[], .slice (some ⟨rb, 90, none⟩) 21 (q - 65), .int .u64 (v_delta : Nat)] W' fun e w' => e = .returned (.tuple #[]) ∧ Puts W w' sb rb n (L8 ++ be 8 v_delta) 0 t o) := fun W' h' =>
    put64_at _ _ _ l_delta.out nL8.out h' (by omega)
  refine wp_region_held_drew (S := fun w' => Puts W w' sb rb n L8 8 t o) (by kernel_rfl) HS.out (fun hHeld => ?_)
  refine wpAnyH_take (i := 0) (v := .agg #[]) rfl (by kernel_rfl) (by kernel_rfl) (by kernel_rfl) (fun _ _ _ h => h) (Or.inl ⟨by kernel_rfl, fun w hSw => by go_simp⟩) (by assumption) ?_
  change wpAnyH _ _ _ _ _ _ _ (Act.put _ (some 79) _) _
  try simp only [Act.put, List.setIfInBounds_toArray, List.set_cons_zero, List.set_cons_succ]
  refine wpAnyH_take (i := 1) (v := .slice (some ⟨rb, 25, none⟩) 86 q) rfl (by kernel_rfl) (by kernel_rfl) (by kernel_rfl) (fun _ _ _ h => h) (Or.inl ⟨by kernel_rfl, fun w hSw => by go_simp⟩) (by assumption) ?_
  change wpAnyH _ _ _ _ _ _ _ (Act.put _ (some 80) _) _
  try simp only [Act.put, List.setIfInBounds_toArray, List.set_cons_zero, List.set_cons_succ]
  refine wpAnyH_take (i := 2) (v := .slice (some ⟨rb, 90, none⟩) 21 (q - 65)) rfl (by kernel_rfl) (by kernel_rfl) (by kernel_rfl) (fun _ _ _ h => h) (Or.inl ⟨by kernel_rfl, fun w hSw => by go_simp⟩) (by assumption) ?_
  change wpAnyH _ _ _ _ _ _ _ (Act.put _ (some 81) _) _
  try simp only [Act.put, List.setIfInBounds_toArray, List.set_cons_zero, List.set_cons_succ]
  refine wpAnyH_take (i := 3) (v := .pointer (some ⟨gb, 4, none⟩)) rfl (by kernel_rfl) (by kernel_rfl) (by kernel_rfl) (fun _ _ _ h => h) (Or.inl ⟨by kernel_rfl, fun w hSw => by go_simp⟩) (by assumption) ?_
  change wpAnyH _ _ _ _ _ _ _ (Act.put _ (some 82) _) _
  try simp only [Act.put, List.setIfInBounds_toArray, List.set_cons_zero, List.set_cons_succ]
  refine wpAnyH_take (i := 4) (v := .pointer (some ⟨gb, 4, none⟩)) rfl (by kernel_rfl) (by kernel_rfl) (by kernel_rfl) (fun _ _ _ h => h) (Or.inl ⟨by kernel_rfl, fun w hSw => by go_simp⟩) (by assumption) ?_
  change wpAnyH _ _ _ _ _ _ _ (Act.put _ (some 83) _) _
  try simp only [Act.put, List.setIfInBounds_toArray, List.set_cons_zero, List.set_cons_succ]
  refine wpAnyH_take (i := 5) (v := .pointer (some ⟨gb, 28, none⟩)) rfl (by kernel_rfl) (by kernel_rfl) (by kernel_rfl) (fun _ _ _ h => h) (Or.inl ⟨by kernel_rfl, fun w hSw => by go_simp⟩) (by assumption) ?_
  change wpAnyH _ _ _ _ _ _ _ (Act.put _ (some 84) _) _
  try simp only [Act.put, List.setIfInBounds_toArray, List.set_cons_zero, List.set_cons_succ]
  refine wpAnyH_take (i := 6) (v := .pointer (some ⟨gb, 31, none⟩)) rfl (by kernel_rfl) (by kernel_rfl) (by kernel_rfl) (fun _ _ _ h => h) (Or.inl ⟨by kernel_rfl, fun w hSw => by go_simp⟩) (by assumption) ?_
  change wpAnyH _ _ _ _ _ _ _ (Act.put _ (some 85) _) _
  try simp only [Act.put, List.setIfInBounds_toArray, List.set_cons_zero, List.set_cons_succ]
  refine wpAnyH_take (i := 7) (v := .int .i64 G.delta) rfl (by kernel_rfl) (by kernel_rfl) (by kernel_rfl) (fun _ _ _ h => h) (Or.inl ⟨by kernel_rfl, fun w hSw => by have := C31.out _ hSw.gr; go_simp⟩) (by assumption) ?_
  change wpAnyH _ _ _ _ _ _ _ (Act.put _ (some 86) _) _
  try simp only [Act.put, List.setIfInBounds_toArray, List.set_cons_zero, List.set_cons_succ]
  refine wpAnyH_take (i := 8) (v := .int .u64 (v_delta : Nat)) rfl (by kernel_rfl) (by kernel_rfl) (by kernel_rfl) (fun _ _ _ h => h) (Or.inl ⟨by kernel_rfl, fun w hSw => by go_simp⟩) (by assumption) ?_
  change wpAnyH _ _ _ _ _ _ _ (Act.put _ (some 87) _) _
  try simp only [Act.put, List.setIfInBounds_toArray, List.set_cons_zero, List.set_cons_succ]
  refine wpAnyH_ready (rs := [9]) (by kernel_rfl) (by simp) ?_
  refine AllReadyH.cons (o := _) rfl (fun K hK => ?_) AllReadyH.nil
  rw [if_pos (by kernel_rfl)]
  go_simp
  refine (CC.out _ (by assumption)).mono ?_
  rintro e w9 ⟨rfl, hw9⟩
  refine hK.out _ _ (hw9.closes8) (fun hHeldw9 => ?_)
  clear hK K
  try simp only [Act.put, List.setIfInBounds_toArray, List.set_cons_zero, List.set_cons_succ]
  refine wpAnyH_done (by kernel_rfl) ?_ _
  obtain ⟨L9, hL9⟩ : ∃ l, l = L8 ++ be 8 v_delta := ⟨_, rfl⟩
  rw [← hL9] at hw9
  have PL9 : Hid (Puts W w9 sb rb n L9 0 t o) := hw9
  have nL9 : Hid (L9.length = 98) := by show _ = _; rw [hL9, List.length_append, be_len, nL8.out]
  have HL9 : Hid (L9 = L8 ++ be 8 v_delta) := hL9
  clear hL9 hw9 CC HS hHeld hHeldw9 PL8 nL8
  go_wp2_with fail
  have HS : Hid (Puts W w9.drew sb rb n L9 4 t o) := (PL9.out.opens (by rw [nL9.out]; have := hn'.out; omega)).drew
  have CC : Hid (∀ W', Puts W W' sb rb n L9 4 t o → Calls Try.prog 45 #[.agg #[], .slice (some ⟨rb, 98, none⟩) 13 (q - 73), .int .u32 (G.sum : Nat)] W' fun e w' => e = .returned (.tuple #[]) ∧ Puts W w' sb rb n (L9 ++ be 4 G.sum) 0 t o) := fun W' h' =>
    put32_at _ _ _ g_sum.out nL9.out h' (by omega)
  refine wp_region_held_drew (S := fun w' => Puts W w' sb rb n L9 4 t o) (by kernel_rfl) HS.out (fun hHeld => ?_)
  refine wpAnyH_take (i := 0) (v := .agg #[]) rfl (by kernel_rfl) (by kernel_rfl) (by kernel_rfl) (fun _ _ _ h => h) (Or.inl ⟨by kernel_rfl, fun w hSw => by go_simp⟩) (by assumption) ?_
  change wpAnyH _ _ _ _ _ _ _ (Act.put _ (some 89) _) _
  try simp only [Act.put, List.setIfInBounds_toArray, List.set_cons_zero, List.set_cons_succ]
  refine wpAnyH_take (i := 1) (v := .slice (some ⟨rb, 25, none⟩) 86 q) rfl (by kernel_rfl) (by kernel_rfl) (by kernel_rfl) (fun _ _ _ h => h) (Or.inl ⟨by kernel_rfl, fun w hSw => by go_simp⟩) (by assumption) ?_
  change wpAnyH _ _ _ _ _ _ _ (Act.put _ (some 90) _) _
  try simp only [Act.put, List.setIfInBounds_toArray, List.set_cons_zero, List.set_cons_succ]
  refine wpAnyH_take (i := 2) (v := .slice (some ⟨rb, 98, none⟩) 13 (q - 73)) rfl (by kernel_rfl) (by kernel_rfl) (by kernel_rfl) (fun _ _ _ h => h) (Or.inl ⟨by kernel_rfl, fun w hSw => by go_simp⟩) (by assumption) ?_
  change wpAnyH _ _ _ _ _ _ _ (Act.put _ (some 91) _) _
  try simp only [Act.put, List.setIfInBounds_toArray, List.set_cons_zero, List.set_cons_succ]
  refine wpAnyH_take (i := 3) (v := .pointer (some ⟨gb, 4, none⟩)) rfl (by kernel_rfl) (by kernel_rfl) (by kernel_rfl) (fun _ _ _ h => h) (Or.inl ⟨by kernel_rfl, fun w hSw => by go_simp⟩) (by assumption) ?_
  change wpAnyH _ _ _ _ _ _ _ (Act.put _ (some 92) _) _
  try simp only [Act.put, List.setIfInBounds_toArray, List.set_cons_zero, List.set_cons_succ]
  refine wpAnyH_take (i := 4) (v := .pointer (some ⟨gb, 4, none⟩)) rfl (by kernel_rfl) (by kernel_rfl) (by kernel_rfl) (fun _ _ _ h => h) (Or.inl ⟨by kernel_rfl, fun w hSw => by go_simp⟩) (by assumption) ?_
  change wpAnyH _ _ _ _ _ _ _ (Act.put _ (some 93) _) _
  try simp only [Act.put, List.setIfInBounds_toArray, List.set_cons_zero, List.set_cons_succ]
  refine wpAnyH_take (i := 5) (v := .pointer (some ⟨gb, 28, none⟩)) rfl (by kernel_rfl) (by kernel_rfl) (by kernel_rfl) (fun _ _ _ h => h) (Or.inl ⟨by kernel_rfl, fun w hSw => by go_simp⟩) (by assumption) ?_
  change wpAnyH _ _ _ _ _ _ _ (Act.put _ (some 94) _) _
  try simp only [Act.put, List.setIfInBounds_toArray, List.set_cons_zero, List.set_cons_succ]
  refine wpAnyH_take (i := 6) (v := .pointer (some ⟨gb, 32, none⟩)) rfl (by kernel_rfl) (by kernel_rfl) (by kernel_rfl) (fun _ _ _ h => h) (Or.inl ⟨by kernel_rfl, fun w hSw => by go_simp⟩) (by assumption) ?_
  change wpAnyH _ _ _ _ _ _ _ (Act.put _ (some 95) _) _
  try simp only [Act.put, List.setIfInBounds_toArray, List.set_cons_zero, List.set_cons_succ]
  refine wpAnyH_take (i := 7) (v := .int .u32 (G.sum : Nat)) rfl (by kernel_rfl) (by kernel_rfl) (by kernel_rfl) (fun _ _ _ h => h) (Or.inl ⟨by kernel_rfl, fun w hSw => by have := C32.out _ hSw.gr; go_simp⟩) (by assumption) ?_
  change wpAnyH _ _ _ _ _ _ _ (Act.put _ (some 96) _) _
  try simp only [Act.put, List.setIfInBounds_toArray, List.set_cons_zero, List.set_cons_succ]
  refine wpAnyH_ready (rs := [8]) (by kernel_rfl) (by simp) ?_
  refine AllReadyH.cons (o := _) rfl (fun K hK => ?_) AllReadyH.nil
  rw [if_pos (by kernel_rfl)]
  go_simp
  refine (CC.out _ (by assumption)).mono ?_
  rintro e w10 ⟨rfl, hw10⟩
  refine hK.out _ _ (hw10.closes4) (fun hHeldw10 => ?_)
  clear hK K
  try simp only [Act.put, List.setIfInBounds_toArray, List.set_cons_zero, List.set_cons_succ]
  refine wpAnyH_done (by kernel_rfl) ?_ _
  obtain ⟨L10, hL10⟩ : ∃ l, l = L9 ++ be 4 G.sum := ⟨_, rfl⟩
  rw [← hL10] at hw10
  have PL10 : Hid (Puts W w10 sb rb n L10 0 t o) := hw10
  have nL10 : Hid (L10.length = 102) := by show _ = _; rw [hL10, List.length_append, be_len, nL9.out]
  have HL10 : Hid (L10 = L9 ++ be 4 G.sum) := hL10
  clear hL10 hw10 CC HS hHeld hHeldw10 PL9 nL9
  go_wp2_with fail
  refine (CB.out _ PL10.out.gr).mono ?_
  rintro e w11 ⟨rfl, rfl⟩
  obtain ⟨x102, e102⟩ := Option.isSome_iff_exists.1 (PL10.out.pt.there 102 (by have := hn'.out; omega)).1
  have f102 := (PL10.out.pt.there 102 (by have := hn'.out; omega)).2
  rw [Nat.zero_add] at e102 f102
  have PL11 : Hid (Puts W (w11.setCell ⟨rb, 102, none⟩ (.int .u8 (cB : Nat))) sb rb n (L10 ++ [cB]) 0 t o) := by
    have := Puts.put (vs := [cB]) (PL10.out.opens (k := 1) (by rw [nL10.out]; have := hn'.out; omega))
    rw [nL10.out] at this
    exact this
  obtain ⟨L11, hL11⟩ : ∃ l, l = L10 ++ [cB] := ⟨_, rfl⟩
  rw [← hL11] at PL11
  have nL11 : Hid (L11.length = 103) := by show _ = _; rw [hL11, List.length_append, nL10.out]; rfl
  have HL11 : Hid (L11 = L10 ++ [cB]) := hL11
  go_wp2_with fail
  clear hL11 PL10 nL10 e102 f102
  generalize w11.setCell ⟨rb, 102, none⟩ (.int .u8 (cB : Nat)) = w12 at *
  have HS : Hid (Puts W w12.drew sb rb n L11 8 t o) := (PL11.out.opens (by rw [nL11.out]; have := hn'.out; omega)).drew
  have CC : Hid (∀ W', Puts W W' sb rb n L11 8 t o → Calls Try.prog 44 #[.agg #[], .slice (some ⟨rb, 103, none⟩) 8 (q - 78), .int .u64 (v_frm : Nat)] W' fun e w' => e = .returned (.tuple #[]) ∧ Puts W w' sb rb n (L11 ++ be 8 v_frm) 0 t o) := fun W' h' =>
    put64_at _ _ _ l_frm.out nL11.out h' (by omega)
  refine wp_region_held_drew (S := fun w' => Puts W w' sb rb n L11 8 t o) (by kernel_rfl) HS.out (fun hHeld => ?_)
  refine wpAnyH_take (i := 0) (v := .agg #[]) rfl (by kernel_rfl) (by kernel_rfl) (by kernel_rfl) (fun _ _ _ h => h) (Or.inl ⟨by kernel_rfl, fun w hSw => by go_simp⟩) (by assumption) ?_
  change wpAnyH _ _ _ _ _ _ _ (Act.put _ (some 104) _) _
  try simp only [Act.put, List.setIfInBounds_toArray, List.set_cons_zero, List.set_cons_succ]
  refine wpAnyH_take (i := 1) (v := .slice (some ⟨rb, 25, none⟩) 86 q) rfl (by kernel_rfl) (by kernel_rfl) (by kernel_rfl) (fun _ _ _ h => h) (Or.inl ⟨by kernel_rfl, fun w hSw => by go_simp⟩) (by assumption) ?_
  change wpAnyH _ _ _ _ _ _ _ (Act.put _ (some 105) _) _
  try simp only [Act.put, List.setIfInBounds_toArray, List.set_cons_zero, List.set_cons_succ]
  refine wpAnyH_take (i := 2) (v := .slice (some ⟨rb, 103, none⟩) 8 (q - 78)) rfl (by kernel_rfl) (by kernel_rfl) (by kernel_rfl) (fun _ _ _ h => h) (Or.inl ⟨by kernel_rfl, fun w hSw => by go_simp⟩) (by assumption) ?_
  change wpAnyH _ _ _ _ _ _ _ (Act.put _ (some 106) _) _
  try simp only [Act.put, List.setIfInBounds_toArray, List.set_cons_zero, List.set_cons_succ]
  refine wpAnyH_take (i := 3) (v := .pointer (some ⟨gb, 4, none⟩)) rfl (by kernel_rfl) (by kernel_rfl) (by kernel_rfl) (fun _ _ _ h => h) (Or.inl ⟨by kernel_rfl, fun w hSw => by go_simp⟩) (by assumption) ?_
  change wpAnyH _ _ _ _ _ _ _ (Act.put _ (some 107) _) _
  try simp only [Act.put, List.setIfInBounds_toArray, List.set_cons_zero, List.set_cons_succ]
  refine wpAnyH_take (i := 4) (v := .pointer (some ⟨gb, 4, none⟩)) rfl (by kernel_rfl) (by kernel_rfl) (by kernel_rfl) (fun _ _ _ h => h) (Or.inl ⟨by kernel_rfl, fun w hSw => by go_simp⟩) (by assumption) ?_
  change wpAnyH _ _ _ _ _ _ _ (Act.put _ (some 108) _) _
  try simp only [Act.put, List.setIfInBounds_toArray, List.set_cons_zero, List.set_cons_succ]
  refine wpAnyH_take (i := 5) (v := .pointer (some ⟨gb, 39, none⟩)) rfl (by kernel_rfl) (by kernel_rfl) (by kernel_rfl) (fun _ _ _ h => h) (Or.inl ⟨by kernel_rfl, fun w hSw => by go_simp⟩) (by assumption) ?_
  change wpAnyH _ _ _ _ _ _ _ (Act.put _ (some 109) _) _
  try simp only [Act.put, List.setIfInBounds_toArray, List.set_cons_zero, List.set_cons_succ]
  refine wpAnyH_take (i := 6) (v := .int .i64 G.frm) rfl (by kernel_rfl) (by kernel_rfl) (by kernel_rfl) (fun _ _ _ h => h) (Or.inl ⟨by kernel_rfl, fun w hSw => by have := C39.out _ hSw.gr; go_simp⟩) (by assumption) ?_
  change wpAnyH _ _ _ _ _ _ _ (Act.put _ (some 110) _) _
  try simp only [Act.put, List.setIfInBounds_toArray, List.set_cons_zero, List.set_cons_succ]
  refine wpAnyH_take (i := 7) (v := .int .u64 (v_frm : Nat)) rfl (by kernel_rfl) (by kernel_rfl) (by kernel_rfl) (fun _ _ _ h => h) (Or.inl ⟨by kernel_rfl, fun w hSw => by go_simp⟩) (by assumption) ?_
  change wpAnyH _ _ _ _ _ _ _ (Act.put _ (some 111) _) _
  try simp only [Act.put, List.setIfInBounds_toArray, List.set_cons_zero, List.set_cons_succ]
  refine wpAnyH_ready (rs := [8]) (by kernel_rfl) (by simp) ?_
  refine AllReadyH.cons (o := _) rfl (fun K hK => ?_) AllReadyH.nil
  rw [if_pos (by kernel_rfl)]
  go_simp
  refine (CC.out _ (by assumption)).mono ?_
  rintro e w13 ⟨rfl, hw13⟩
  refine hK.out _ _ (hw13.closes8) (fun hHeldw13 => ?_)
  clear hK K
  try simp only [Act.put, List.setIfInBounds_toArray, List.set_cons_zero, List.set_cons_succ]
  refine wpAnyH_done (by kernel_rfl) ?_ _
  obtain ⟨L12, hL12⟩ : ∃ l, l = L11 ++ be 8 v_frm := ⟨_, rfl⟩
  rw [← hL12] at hw13
  have PL12 : Hid (Puts W w13 sb rb n L12 0 t o) := hw13
  have nL12 : Hid (L12.length = 111) := by show _ = _; rw [hL12, List.length_append, be_len, nL11.out]
  have HL12 : Hid (L12 = L11 ++ be 8 v_frm) := hL12
  clear hL12 hw13 CC HS hHeld hHeldw13 PL11 nL11
  go_wp2_with fail
  go_end0
  refine ⟨rfl, ?_⟩
  have e : L ++ entB G = L12 := by
    rw [HE.out, HL12.out, HL11.out, HL10.out, HL9.out, HL8.out, HL7.out, HL6.out, HL5.out, HL4.out, HL3.out, HL2.out, HL1.out]
    simp only [List.append_assoc]
  rw [e]
  exact PL12.out

end Go.Proofs.Qxb6614450a.W
