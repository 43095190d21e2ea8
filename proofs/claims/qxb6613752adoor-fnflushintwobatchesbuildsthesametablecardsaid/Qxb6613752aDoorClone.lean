import Derived.Test.Qxb6613752aDoorRead
namespace Go.Proofs.Qxb6613752aDoor.W
open Go.RowKit

theorem info5 : (Tryd.prog.info? 5).map (fun i => (i.zero, i.size, i.bytes)) = some (some (.int .u8 0), 1, 1) := by kernel_rfl
theorem info22 : (Tryd.prog.info? 22).map (fun i => (i.zero, i.size, i.bytes)) = some (some (.slice none 0 0), 1, 24) := by kernel_rfl

theorem makeBytes (n : Nat) (hn : n ≤ 1048576) (w : World) :
    (Instr.makeSlice 22 (.int .i64 (n : Int)) (.int .i64 (n : Int))).run Tryd.prog w = .ok (.slice (some ⟨w.heap.size, 0, none⟩) n n) (w.alloc (.cells (madeCells #[.int .u8 0] n) 5)) :=
  run_make_row' (P := Tryd.prog) 22 5 (.int .u8 0) 1 Tryd.underlying22 info5 rfl .i64 .i64 n (by omega) (by omega) w

theorem makeNames (n : Nat) (hn : n ≤ 65536) (w : World) :
    (Instr.makeSlice 32 (.int .i64 (n : Int)) (.int .i64 (n : Int))).run Tryd.prog w = .ok (.slice (some ⟨w.heap.size, 0, none⟩) n n) (w.alloc (.cells (madeCells #[.slice none 0 0] n) 22)) :=
  run_make_row' (P := Tryd.prog) 32 22 (.slice none 0 0) 24 Tryd.underlying32 info22 rfl .i64 .i64 n (by omega) (by omega) w

set_option maxHeartbeats 1000000 in
/-- A copy of a slice of bytes that is not nil: a new block. -/
theorem cloneBytes_some (x : Addr) (n c : Nat) (f : Nat → Value) (w : World) (hn : n ≤ 1048576) (hr : Row w (some x) n f) (hf : ∀ i, i < n → ∃ b : Int, f i = .int .u8 b) :
    Calls Tryd.prog 12 #[.slice (some x) n c] w fun e w' => e = .returned (.slice (some ⟨w.heap.size, 0, none⟩) n n) ∧ Below w.heap.size w w' ∧ w'.heap.size = w.heap.size + 1 ∧ w'.rowIs w.heap.size 5 n f := by
  have hmk := makeBytes n hn
  have he := fun w a n c n' c' => Lib.run_eql_slice_nil (P := Tryd.prog) w 22 5 a n c n' c' Tryd.underlying22
  have HR : Hid (Row w (some x) n f) := hr
  have HF : Hid (∀ i, i < n → ∃ b : Int, f i = .int .u8 b) := hf
  clear hr hf
  go_enter Tryd.func12, Tryd.ntmps12
  go_wp2
  go_loopw [4] (fun i wr => ∃ k : Nat, k ≤ n ∧ i = .int .i64 k ∧ Hid (Below w.heap.size w wr ∧ wr.heap.size = w.heap.size + 1 ∧ wr.rowIs w.heap.size 5 n (fun j => if j < k then f j else .int .u8 0))) (fun i _ => n - (intOf i).toNat)
  case atStart =>
    refine ⟨0, Nat.zero_le _, rfl, below_alloc _ _, by simp, ?_⟩
    exact (World.rowIs_made w (.int .u8 0) n 5).congr fun i _ => by simp
  case round =>
    obtain ⟨k, hk, rfl, hw⟩ := hrel
    by_cases hlt : k < n
    · obtain ⟨hb, hs, hr⟩ := hw.out
      obtain ⟨b, o, e, hc⟩ := HR.out (by omega)
      injection e with e
      subst e
      obtain ⟨v, hv⟩ := HF.out k hlt
      have c1 : wr.cell? ⟨b, o + k, none⟩ = some (.int .u8 v) := by
        rw [hb.cell (p := ⟨b, o + k, none⟩) (cell_lt (hc k hlt)), hc k hlt, hv]
      have c2 : wr.cell? ⟨w.heap.size, k, none⟩ = some (.int .u8 0) := by
        rw [hr.cell hlt]; simp
      have f2 := hr.frozen k
      have NX : Hid (Below w.heap.size w (wr.setCell ⟨w.heap.size, k, none⟩ (.int .u8 v)) ∧ (wr.setCell ⟨w.heap.size, k, none⟩ (.int .u8 v)).heap.size = w.heap.size + 1 ∧ (wr.setCell ⟨w.heap.size, k, none⟩ (.int .u8 v)).rowIs w.heap.size 5 n (fun j => if j < k + 1 then f j else .int .u8 0)) := by
        refine ⟨hb.setCell (p := ⟨w.heap.size, k, none⟩) (Nat.le_refl _) _, by simpa using hs, (hr.set k _).congr fun i _ => ?_⟩
        by_cases e : i = k
        · subst e; simp [hv]
        · by_cases e2 : i < k
          · rw [if_neg e, if_pos e2, if_pos (by omega)]
          · rw [if_neg e, if_neg e2, if_neg (by omega)]
      clear hb hs hr hc hv hw
      go_wp2
      go_roundw
      case rel => exact ⟨k + 1, by omega, by go_num, NX⟩
      case measure => simp [intOf]; omega
    · obtain rfl : k = n := by omega
      go_wp2
      go_ret
      exact ⟨rfl, hw.out.1, hw.out.2.1, hw.out.2.2.congr fun i hi => if_pos hi⟩

set_option maxHeartbeats 1000000 in
theorem cloneBytes_none (w : World) : Calls Tryd.prog 12 #[.slice none 0 0] w fun e w' => e = .returned (.slice none 0 0) ∧ w' = w := by
  have he := fun w a n c n' c' => Lib.run_eql_slice_nil (P := Tryd.prog) w 22 5 a n c n' c' Tryd.underlying22
  go_enter Tryd.func12, Tryd.ntmps12
  go_wp2
  go_ret
  exact ⟨rfl, rfl⟩

/-- A slice of bytes in a block above B0. -/
def SlA (B0 : Nat) (w : World) (v : Value) (l : List UInt8) : Prop :=
  ∃ a c, v = .slice a l.length c ∧ (l = [] ∨ ∃ b o, a = some ⟨b, o, none⟩ ∧ B0 < b ∧ ∀ j (hj : j < l.length), w.cell? ⟨b, o + j, none⟩ = some (.int .u8 (l[j].toNat : Int)))

theorem SlA.sl {B : Nat} {w : World} {v : Value} {l : List UInt8} (h : SlA B w v l) : Sl w v l := by
  obtain ⟨a, c, rfl, h⟩ := h
  refine ⟨a, c, rfl, ?_⟩
  rcases h with rfl | ⟨b, o, rfl, _, h⟩
  · exact .inl rfl
  · exact .inr ⟨b, o, rfl, h⟩

theorem SlA.below {B : Nat} {w w' : World} {v : Value} {l : List UInt8} (h : SlA B w v l) (k : Below w.heap.size w w') : SlA B w' v l := by
  obtain ⟨a, c, rfl, h⟩ := h
  refine ⟨a, c, rfl, ?_⟩
  rcases h with rfl | ⟨b, o, rfl, hb, h⟩
  · exact .inl rfl
  · exact .inr ⟨b, o, rfl, hb, fun j hj => (k.cell (p := ⟨b, o + j, none⟩) (cell_lt (h j hj))).trans (h j hj)⟩

theorem SlA.set {B : Nat} {w : World} {v : Value} {l : List UInt8} (h : SlA B w v l) (k : Nat) (u : Value) : SlA B (w.setCell ⟨B, k, none⟩ u) v l := by
  obtain ⟨a, c, rfl, h⟩ := h
  refine ⟨a, c, rfl, ?_⟩
  rcases h with rfl | ⟨b, o, rfl, hb, h⟩
  · exact .inl rfl
  · exact .inr ⟨b, o, rfl, hb, fun j hj => (World.cell?_of_block (w := w) (Below.heap_setCell w ⟨B, k, none⟩ u b (by show b ≠ B; omega))).trans (h j hj)⟩

theorem Sl.slB {w : World} {v : Value} {l : List UInt8} (h : Sl w v l) {B : Nat} (hB : w.heap.size ≤ B) : SlB B w v l := by
  obtain ⟨a, c, rfl, h⟩ := h
  refine ⟨a, c, rfl, ?_⟩
  rcases h with rfl | ⟨b, o, rfl, h⟩
  · exact .inl rfl
  · by_cases hl : l = []
    · exact .inl hl
    · have h0 : 0 < l.length := by cases l with | nil => exact absurd rfl hl | cons => simp
      exact .inr ⟨b, o, rfl, Nat.lt_of_lt_of_le (cell_lt (h 0 h0)) hB, h⟩

/-- The copy of a slice of bytes, nil or not. -/
theorem cloneBytes_calls (a : Option Addr) (n c : Nat) (l : List UInt8) (w : World) (h : Sl w (.slice a n c) l) (hnil : a = none → n = 0 ∧ c = 0) (hn : n ≤ 1048576) (B0 : Nat) (hB : B0 < w.heap.size) :
    Calls Tryd.prog 12 #[.slice a n c] w fun e w' => ∃ a', e = .returned (.slice a' n n) ∧ Below w.heap.size w w' ∧ SlA B0 w' (.slice a' n n) l ∧ (a' = none → n = 0) ∧ (0 < n → a' = some ⟨w.heap.size, 0, none⟩) := by
  have hr := h.row
  cases a with
  | none =>
    obtain ⟨rfl, rfl⟩ := hnil rfl
    have hl : l = [] := List.length_eq_zero_iff.1 hr.1.symm
    subst hl
    refine (cloneBytes_none w).mono ?_
    rintro e w' ⟨rfl, rfl⟩
    exact ⟨none, rfl, Below.refl _ _, ⟨none, 0, rfl, .inl rfl⟩, fun _ => rfl, fun h => absurd h (Nat.lt_irrefl _)⟩
  | some x =>
    refine (cloneBytes_some x n c _ w hn hr.2 (fun i _ => ⟨_, rfl⟩)).mono ?_
    rintro e w' ⟨rfl, hb, _, hrow⟩
    refine ⟨_, rfl, hb, ⟨_, n, by rw [← hr.1], ?_⟩, fun h => by simp at h, fun _ => rfl⟩
    refine .inr ⟨w.heap.size, 0, rfl, hB, fun j hj => ?_⟩
    rw [Nat.zero_add, hrow.cell (by rw [hr.1]; exact hj)]
    simp only [List.getD_eq_getElem?_getD, List.getElem?_eq_getElem hj]
    rfl

set_option maxHeartbeats 2000000 in
theorem cloneNames_some (x : Addr) (n c : Nat) (A : Nat → Option Addr) (Ln C : Nat → Nat) (l : Nat → List UInt8) (w : World) (hn : n ≤ 65536) (h : Nms w (some x) n A Ln C l)
    (hnil : ∀ i, i < n → A i = none → Ln i = 0 ∧ C i = 0) (hl : ∀ i, i < n → Ln i ≤ 1048576) :
    Calls Tryd.prog 13 #[.slice (some x) n c] w fun e w' => e = .returned (.slice (some ⟨w.heap.size, 0, none⟩) n n) ∧ Below w.heap.size w w' ∧
      ∃ A', Nms w' (some ⟨w.heap.size, 0, none⟩) n A' Ln Ln l ∧ ∀ i, i < n → A' i = none → Ln i = 0 := by
  have hmk := makeNames n hn
  have he := fun w a n c n' c' => Lib.run_eql_slice_nil (P := Tryd.prog) w 32 22 a n c n' c' Tryd.underlying32
  have H : Hid (Nms w (some x) n A Ln C l) := h
  have HNil : Hid (∀ i, i < n → A i = none → Ln i = 0 ∧ C i = 0) := hnil
  have HL : Hid (∀ i, i < n → Ln i ≤ 1048576) := hl
  clear h hnil hl
  go_enter Tryd.func13, Tryd.ntmps13
  go_wp2
  go_loopw [4] (fun i wr => ∃ k : Nat, k ≤ n ∧ i = .int .i64 k ∧ Hid (Below w.heap.size w wr ∧ w.heap.size < wr.heap.size ∧ ∃ A' : Nat → Option Addr, wr.rowIs w.heap.size 22 n (fun j => if j < k then .slice (A' j) (Ln j) (Ln j) else .slice none 0 0) ∧ (∀ i, i < k → SlA w.heap.size wr (.slice (A' i) (Ln i) (Ln i)) (l i)) ∧ ∀ i, i < k → A' i = none → Ln i = 0)) (fun i _ => n - (intOf i).toNat)
  case atStart =>
    refine ⟨0, Nat.zero_le _, rfl, below_alloc _ _, by simp, fun _ => none, ?_, fun i hi => absurd hi (Nat.not_lt_zero _), fun i hi => absurd hi (Nat.not_lt_zero _)⟩
    exact (World.rowIs_made w (.slice none 0 0) n 22).congr fun i _ => by simp
  case round =>
    obtain ⟨k, hk, rfl, hw⟩ := hrel
    by_cases hlt : k < n
    · obtain ⟨hb, hs, A', hr, hsl, hnl⟩ := hw.out
      obtain ⟨b, o, e, hc⟩ := H.out.row (by omega)
      injection e with e
      subst e
      have hsk := (H.out.sl k hlt).below hb
      have c1 : wr.cell? ⟨b, o + k, none⟩ = some (.slice (A k) (Ln k) (C k)) := by
        rw [hb.cell (p := ⟨b, o + k, none⟩) (cell_lt (hc k hlt)), hc k hlt]
      have CB : Hid (Calls Tryd.prog 12 #[.slice (A k) (Ln k) (C k)] wr fun e w' => ∃ a', e = .returned (.slice a' (Ln k) (Ln k)) ∧ Below wr.heap.size wr w' ∧ SlA w.heap.size w' (.slice a' (Ln k) (Ln k)) (l k) ∧ (a' = none → Ln k = 0) ∧ (0 < Ln k → a' = some ⟨wr.heap.size, 0, none⟩)) :=
        cloneBytes_calls (A k) (Ln k) (C k) (l k) wr hsk (HNil.out k hlt) (HL.out k hlt) w.heap.size hs
      have HLk : Hid (Ln k ≤ 1048576) := HL.out k hlt
      have NX : Hid (∀ a' w2, Below wr.heap.size wr w2 → SlA w.heap.size w2 (.slice a' (Ln k) (Ln k)) (l k) → (a' = none → Ln k = 0) →
          w2.cell? ⟨w.heap.size, k, none⟩ = some (.slice none 0 0) ∧ w2.frozen? ⟨w.heap.size, k, none⟩ = false ∧
          (Below w.heap.size w (w2.setCell ⟨w.heap.size, k, none⟩ (.slice a' (Ln k) (Ln k))) ∧ w.heap.size < (w2.setCell ⟨w.heap.size, k, none⟩ (.slice a' (Ln k) (Ln k))).heap.size ∧ ∃ A' : Nat → Option Addr, (w2.setCell ⟨w.heap.size, k, none⟩ (.slice a' (Ln k) (Ln k))).rowIs w.heap.size 22 n (fun j => if j < k + 1 then .slice (A' j) (Ln j) (Ln j) else .slice none 0 0) ∧ (∀ i, i < k + 1 → SlA w.heap.size (w2.setCell ⟨w.heap.size, k, none⟩ (.slice a' (Ln k) (Ln k))) (.slice (A' i) (Ln i) (Ln i)) (l i)) ∧ ∀ i, i < k + 1 → A' i = none → Ln i = 0)) := by
        intro a' w2 hb2 hs2 hn2
        have hr2 := rowIs_below hr hb2 hr.lt
        refine ⟨by rw [hr2.cell hlt]; simp, hr2.frozen k, (hb.trans (hb2.mono (by omega))).setCell (p := ⟨w.heap.size, k, none⟩) (Nat.le_refl _) _, by have := hb2.size; simp; omega, fun j => if j = k then a' else A' j, ?_, ?_, ?_⟩
        · refine (hr2.set k _).congr fun i _ => ?_
          by_cases e : i = k
          · subst e; simp
          · by_cases e2 : i < k
            · rw [if_neg e, if_pos e2, if_pos (by omega)]; simp only [if_neg e]
            · rw [if_neg e, if_neg e2, if_neg (by omega)]
        · intro i hi
          by_cases e : i = k
          · subst e; simp only [if_pos]; exact hs2.set _ _
          · simp only [if_neg e]; exact ((hsl i (by omega)).below hb2).set _ _
        · intro i hi hi2
          by_cases e : i = k
          · subst e; simp only [if_pos] at hi2; exact hn2 hi2
          · simp only [if_neg e] at hi2; exact hnl i (by omega) hi2
      clear hb hs hr hc hw hsl hnl hsk
      generalize A k = Ak at *
      generalize Ln k = Lk at *
      generalize C k = Ck at *
      go_wp2_with fail
      refine CB.out.mono ?_
      rintro e w2 ⟨a', rfl, hb2, hs2, hn2, _⟩
      obtain ⟨c2, f2, hh⟩ := NX.out a' w2 hb2 hs2 hn2
      have HH : Hid _ := hh
      clear hb2 hs2 hn2 hh
      go_wp2_with fail
      go_roundw
      case rel => exact ⟨k + 1, by omega, by go_num, HH⟩
      case measure => simp [intOf]; omega
    · obtain rfl : k = n := by omega
      go_wp2
      go_ret
      obtain ⟨hb, hs, A', hr, hsl, hnl⟩ := hw.out
      refine ⟨rfl, hb, A', ⟨fun _ => ⟨w.heap.size, 0, rfl, fun i hi => ?_⟩, fun i hi => (hsl i hi).sl, fun i hi => ?_⟩, hnl⟩
      · rw [Nat.zero_add, hr.cell hi, if_pos hi]
      · have := HL.out i hi; omega

set_option maxHeartbeats 1000000 in
theorem cloneNames_none (w : World) : Calls Tryd.prog 13 #[.slice none 0 0] w fun e w' => e = .returned (.slice none 0 0) ∧ w' = w := by
  have he := fun w a n c n' c' => Lib.run_eql_slice_nil (P := Tryd.prog) w 32 22 a n c n' c' Tryd.underlying32
  go_enter Tryd.func13, Tryd.ntmps13
  go_wp2
  go_ret
  exact ⟨rfl, rfl⟩

end Go.Proofs.Qxb6613752aDoor.W
