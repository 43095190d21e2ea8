import Derived.Test.Qxb6614450aGlobPlain
/-! The writers of a row: PutUint64, PutUint32, putInt, putByte, boolByte, codeByte. -/
namespace Go.Proofs.Qxb6614450a.W
open Go.RowKit
set_option linter.unusedSimpArgs false

theorem be8_cells (v : Nat) (hv : v < 18446744073709551616) : bytesV (be 8 v) = [Value.int .u8 ((v : Int) / 72057594037927936), Value.int .u8 ((v : Int) / 281474976710656 % 256), Value.int .u8 ((v : Int) / 1099511627776 % 256), Value.int .u8 ((v : Int) / 4294967296 % 256), Value.int .u8 ((v : Int) / 16777216 % 256), Value.int .u8 ((v : Int) / 65536 % 256), Value.int .u8 ((v : Int) / 256 % 256), Value.int .u8 ((v : Int) % 256)] := by
  have e7 : ((v / 72057594037927936 % 256 : Nat) : Int) = (v : Int) / 72057594037927936 := by omega
  simp only [bytesV, be, List.map, Nat.reducePow, Nat.div_one, e7]
  simp

theorem be4_cells (v : Nat) (hv : v < 4294967296) : bytesV (be 4 v) = [Value.int .u8 ((v : Int) / 16777216), Value.int .u8 ((v : Int) / 65536 % 256), Value.int .u8 ((v : Int) / 256 % 256), Value.int .u8 ((v : Int) % 256)] := by
  have e7 : ((v / 16777216 % 256 : Nat) : Int) = (v : Int) / 16777216 := by omega
  simp only [bytesV, be, List.map, Nat.reducePow, Nat.div_one, e7]
  simp

theorem there_cell {w : World} {b o n : Nat} (h : w.there b o n) (ob : Obj) (j : Nat) (hj : j < n) : ∃ x, (w.alloc ob).cell? ⟨b, o + j, none⟩ = some x ∧ (w.alloc ob).frozen? ⟨b, o + j, none⟩ = false := by
  have := World.there_alloc h ob j hj
  obtain ⟨x, hx⟩ := Option.isSome_iff_exists.1 this.1
  exact ⟨x, hx, this.2⟩

set_option maxHeartbeats 8000000 in
set_option maxRecDepth 100000 in
theorem put64_calls (b o n c v : Nat) (hv : v < 18446744073709551616) (w : World) (hn : 8 ≤ n) (ht : w.there b o 8) :
    Calls Try.prog 44 #[.agg #[], .slice (some ⟨b, o, none⟩) n c, .int .u64 (v : Nat)] w fun e w' => e = .returned (.tuple #[]) ∧ w' = (w.alloc (.cells #[] 83)).setCells b o (bytesV (be 8 v)) := by
  obtain ⟨x0, d0, f0⟩ := there_cell ht (.cells #[] 83) 0 (by omega)
  obtain ⟨x1, d1, f1⟩ := there_cell ht (.cells #[] 83) 1 (by omega)
  obtain ⟨x2, d2, f2⟩ := there_cell ht (.cells #[] 83) 2 (by omega)
  obtain ⟨x3, d3, f3⟩ := there_cell ht (.cells #[] 83) 3 (by omega)
  obtain ⟨x4, d4, f4⟩ := there_cell ht (.cells #[] 83) 4 (by omega)
  obtain ⟨x5, d5, f5⟩ := there_cell ht (.cells #[] 83) 5 (by omega)
  obtain ⟨x6, d6, f6⟩ := there_cell ht (.cells #[] 83) 6 (by omega)
  obtain ⟨x7, d7, f7⟩ := there_cell ht (.cells #[] 83) 7 (by omega)
  rw [Nat.add_zero] at d0 f0
  have hb := be8_cells v hv
  rw [hb]
  clear hb ht
  go_enter Try.func44, Try.ntmps44
  go_wp2
  go_end0
  exact ⟨rfl, rfl⟩

set_option maxHeartbeats 8000000 in
set_option maxRecDepth 100000 in
theorem put32_calls (b o n c v : Nat) (hv : v < 4294967296) (w : World) (hn : 4 ≤ n) (ht : w.there b o 4) :
    Calls Try.prog 45 #[.agg #[], .slice (some ⟨b, o, none⟩) n c, .int .u32 (v : Nat)] w fun e w' => e = .returned (.tuple #[]) ∧ w' = (w.alloc (.cells #[] 83)).setCells b o (bytesV (be 4 v)) := by
  obtain ⟨x0, d0, f0⟩ := there_cell ht (.cells #[] 83) 0 (by omega)
  obtain ⟨x1, d1, f1⟩ := there_cell ht (.cells #[] 83) 1 (by omega)
  obtain ⟨x2, d2, f2⟩ := there_cell ht (.cells #[] 83) 2 (by omega)
  obtain ⟨x3, d3, f3⟩ := there_cell ht (.cells #[] 83) 3 (by omega)
  rw [Nat.add_zero] at d0 f0
  have hb := be4_cells v hv
  rw [hb]
  clear hb ht
  go_enter Try.func45, Try.ntmps45
  go_wp2
  go_end0
  exact ⟨rfl, rfl⟩

theorem boolByte_calls (b : Bool) (w : World) : Calls Try.prog 38 #[.bool b] w fun e w' => e = .returned (.int .u8 (b2n b : Nat)) ∧ w' = w := by
  cases b
  · go_enter Try.func38, Try.ntmps38
    go_wp2
    go_ret
    exact ⟨rfl, rfl⟩
  · go_enter Try.func38, Try.ntmps38
    go_wp2
    go_ret
    exact ⟨rfl, rfl⟩

/-- The writing of a row through a box: W: the world at the start; the box lies in a new block sb and holds the row from o on. -/
structure Puts (W w : World) (sb rb n : Nat) (L : List Nat) (k : Nat) (t : Nat → Nat) (o : Nat) : Prop where
  gr : W.grownBy w (some rb)
  new : W.heap.size ≤ sb ∧ sb < w.heap.size
  old : rb < W.heap.size
  box : w.cell? ⟨sb, 0, none⟩ = some (.slice (some ⟨rb, o, none⟩) (n - o) (n - o))
  free : w.frozen? ⟨sb, 0, none⟩ = false
  pt : Part w rb n L k t

theorem grown_trans {a b c : World} {row : Option Nat} (h : a.grownBy b row) (k : b.grownBy c row) : a.grownBy c row :=
  ⟨k.os.trans h.os, k.tape.trans h.tape, k.output.trans h.output, Nat.le_trans h.size k.size, fun i hi hr => (k.block i (by have := h.size; omega) hr).trans (h.block i hi hr)⟩

theorem grown_drew {a b : World} {row : Option Nat} (h : a.grownBy b row) : a.grownBy b.drew row := ⟨h.os, h.tape, h.output, h.size, h.block⟩

theorem grown_alloc {a b : World} {row : Option Nat} (h : a.grownBy b row) (o : Obj) : a.grownBy (b.alloc o) row :=
  ⟨h.os, h.tape, h.output, by have := h.size; simp; omega, fun i hi hr => (Below.heap_alloc b o i (by have := h.size; omega)).trans (h.block i hi hr)⟩

theorem heap_setCells (b i : Nat) (hi : i ≠ b) : ∀ (vs : List Value) (o : Nat) (w : World), (w.setCells b o vs).heap[i]? = w.heap[i]?
  | [], _, _ => rfl
  | v :: r, o, w => by
    show ((w.setCell ⟨b, o, none⟩ v).setCells b (o + 1) r).heap[i]? = _
    rw [heap_setCells b i hi r (o + 1) _]
    exact Below.heap_setCell w _ _ i hi

theorem outer_setCells (b : Nat) : ∀ (vs : List Value) (o : Nat) (w : World), (w.setCells b o vs).os = w.os ∧ (w.setCells b o vs).tape = w.tape ∧ (w.setCells b o vs).output = w.output
  | [], _, _ => ⟨rfl, rfl, rfl⟩
  | v :: r, o, w => outer_setCells b r (o + 1) (w.setCell ⟨b, o, none⟩ v)

theorem grown_setCells {a w : World} {b : Nat} (h : a.grownBy w (some b)) (o : Nat) (vs : List Value) : a.grownBy (w.setCells b o vs) (some b) := by
  have e := outer_setCells b vs o w
  exact ⟨e.1.trans h.os, e.2.1.trans h.tape, e.2.2.trans h.output, by rw [size_setCells]; exact h.size, fun i hi hr => by
    rw [heap_setCells b i (fun e => hr (by rw [e]))]
    exact h.block i hi hr⟩

theorem Puts.drew {W w : World} {sb rb n k o : Nat} {L : List Nat} {t : Nat → Nat} (h : Puts W w sb rb n L k t o) : Puts W w.drew sb rb n L k t o :=
  ⟨grown_drew h.gr, h.new, h.old, h.box, h.free, h.pt.same rfl⟩

theorem Puts.alloc {W w : World} {sb rb n k o : Nat} {L : List Nat} {t : Nat → Nat} (h : Puts W w sb rb n L k t o) (ob : Obj) : Puts W (w.alloc ob) sb rb n L k t o := by
  have hs := h.gr.size
  have ho := h.old
  have e : ∀ i, i < w.heap.size → (w.alloc ob).heap[i]? = w.heap[i]? := fun i hi => Below.heap_alloc w ob i hi
  exact ⟨grown_alloc h.gr ob, ⟨h.new.1, by have := h.new.2; simp; omega⟩, h.old, by rw [World.cell?_of_block (a := ⟨sb, 0, none⟩) (e sb h.new.2)]; exact h.box, by rw [World.frozen?_of_block (a := ⟨sb, 0, none⟩) (e sb h.new.2)]; exact h.free, h.pt.same (e rb (by omega))⟩

theorem Puts.put {W w : World} {sb rb n o : Nat} {L vs : List Nat} {t : Nat → Nat} (h : Puts W w sb rb n L vs.length t o) : Puts W (w.setCells rb L.length (bytesV vs)) sb rb n (L ++ vs) 0 t o := by
  have hne : sb ≠ rb := by have := h.old; have := h.new.1; omega
  have e := heap_setCells rb sb hne (bytesV vs) L.length w
  exact ⟨grown_setCells h.gr _ _, ⟨h.new.1, by rw [size_setCells]; exact h.new.2⟩, h.old, by rw [World.cell?_of_block (a := ⟨sb, 0, none⟩) e]; exact h.box, by rw [World.frozen?_of_block (a := ⟨sb, 0, none⟩) e]; exact h.free, h.pt.put⟩

theorem Puts.opens {W w : World} {sb rb n k o : Nat} {L : List Nat} {t : Nat → Nat} (h : Puts W w sb rb n L 0 t o) (hk : L.length + k ≤ n) : Puts W w sb rb n L k t o := ⟨h.gr, h.new, h.old, h.box, h.free, h.pt.opens hk⟩
theorem Puts.closes {W w : World} {sb rb n o : Nat} {L vs : List Nat} {t : Nat → Nat} (h : Puts W w sb rb n (L ++ vs) 0 t o) : Puts W w sb rb n L vs.length t o := ⟨h.gr, h.new, h.old, h.box, h.free, h.pt.closes⟩

theorem Puts.move {W w : World} {sb rb n o o' : Nat} {L : List Nat} {t : Nat → Nat} (h : Puts W w sb rb n L 0 t o) : Puts W (w.setCell ⟨sb, 0, none⟩ (.slice (some ⟨rb, o', none⟩) (n - o') (n - o'))) sb rb n L 0 t o' := by
  have ho := h.old
  have hw := h.new
  have hne : rb ≠ sb := by omega
  have e := fun i (hi : i ≠ sb) => Below.heap_setCell w ⟨sb, 0, none⟩ (.slice (some ⟨rb, o', none⟩) (n - o') (n - o')) i hi
  refine ⟨⟨h.gr.os, h.gr.tape, h.gr.output, by simp; exact h.gr.size, fun i hi hr => (e i (by omega)).trans (h.gr.block i hi hr)⟩, ⟨hw.1, by simp; exact hw.2⟩, h.old, ?_, ?_, h.pt.same (e rb hne)⟩
  · exact World.cell?_setCell_same _ _ _ h.box
  · simp [h.free]

/-- PutUint64 on a row that is being written. -/
theorem put64_puts {W w : World} {sb rb n o : Nat} {L : List Nat} {t : Nat → Nat} (m c v : Nat) (hv : v < 18446744073709551616) (h : Puts W w sb rb n L 8 t o) (hm : 8 ≤ m) :
    Calls Try.prog 44 #[.agg #[], .slice (some ⟨rb, L.length, none⟩) m c, .int .u64 (v : Nat)] w fun e w' => e = .returned (.tuple #[]) ∧ Puts W w' sb rb n (L ++ be 8 v) 0 t o := by
  refine (put64_calls rb L.length m c v hv w hm (there_mid h.pt.there h.pt.fit)).mono ?_
  rintro e w' ⟨rfl, rfl⟩
  have := h.alloc (.cells #[] 83)
  rw [← be_len 8 v] at this
  exact ⟨rfl, this.put⟩

theorem put32_puts {W w : World} {sb rb n o : Nat} {L : List Nat} {t : Nat → Nat} (m c v : Nat) (hv : v < 4294967296) (h : Puts W w sb rb n L 4 t o) (hm : 4 ≤ m) :
    Calls Try.prog 45 #[.agg #[], .slice (some ⟨rb, L.length, none⟩) m c, .int .u32 (v : Nat)] w fun e w' => e = .returned (.tuple #[]) ∧ Puts W w' sb rb n (L ++ be 4 v) 0 t o := by
  refine (put32_calls rb L.length m c v hv w hm (there_mid h.pt.there h.pt.fit)).mono ?_
  rintro e w' ⟨rfl, rfl⟩
  have := h.alloc (.cells #[] 83)
  rw [← be_len 4 v] at this
  exact ⟨rfl, this.put⟩

end Go.Proofs.Qxb6614450a.W
