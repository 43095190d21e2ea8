import Derived.Test.Qxb6613752aDoorFlush
namespace Go.Proofs.Qxb6613752aDoor.W
open Go.RowKit

theorem drewN_more {w wr : World} (h : Hid (∃ n, wr = w.drewN n)) (m : Nat) : Hid (∃ n, wr.drewN m = w.drewN n) := by
  obtain ⟨n, rfl⟩ := h.out
  exact ⟨n + m, World.drewN_drewN _ _ _⟩

theorem Sl.drewN {w : World} {v : Value} {l : List UInt8} (h : Sl w v l) (n : Nat) : Sl (w.drewN n) v l := h

/-- What a slice of one-cell elements reads as, index by index. -/
def Row (w : World) (a : Option Addr) (n : Nat) (f : Nat → Value) : Prop := 0 < n → ∃ b o, a = some ⟨b, o, none⟩ ∧ ∀ i, i < n → w.cell? ⟨b, o + i, none⟩ = some (f i)

theorem Sl.row {w : World} {a : Option Addr} {n c : Nat} {l : List UInt8} (h : Sl w (.slice a n c) l) : n = l.length ∧ Row w a n (fun i => .int .u8 ((l.getD i 0).toNat : Int)) := by
  obtain ⟨a', c', e, h⟩ := h
  injection e with e1 e2 e3
  subst e1 e2
  refine ⟨rfl, fun h0 => ?_⟩
  rcases h with rfl | ⟨b, o, rfl, h⟩
  · simp at h0
  · refine ⟨b, o, rfl, fun i hi => ?_⟩
    rw [h i hi]
    simp only [List.getD_eq_getElem?_getD, List.getElem?_eq_getElem hi]
    rfl

theorem getD_ne (l : List UInt8) (k : Nat) (h : k < l.length) : l.getD k 0 = l[k] := by
  rw [List.getD_eq_getElem?_getD, List.getElem?_eq_getElem h]
  rfl

theorem eqb_part (l l' : List UInt8) (k : Nat) (e : (((l.getD k 0).toNat : Int) != ((l'.getD k 0).toNat : Int)) = true) : (l == l') = false := by
  rw [beq_eq_false_iff_ne]
  rintro rfl
  simp at e

theorem eqb_all (l l' : List UInt8) (hl : l.length = l'.length) (h : ∀ j, j < l.length → (((l.getD j 0).toNat : Int) != ((l'.getD j 0).toNat : Int)) = false) : (l == l') = true := by
  rw [beq_iff_eq]
  apply List.ext_getElem hl
  intro j h1 h2
  have := h j h1
  rw [getD_ne l j h1, getD_ne l' j h2, bne_eq_false_iff_eq] at this
  apply UInt8.toNat_inj.1
  omega

set_option maxHeartbeats 1000000 in
theorem eqBytes_calls (a a' : Option Addr) (n c n' c' : Nat) (l l' : List UInt8) (w : World) (h1 : Sl w (.slice a n c) l) (h2 : Sl w (.slice a' n' c') l') (hn : n ≤ 9223372036854775807) :
    Calls Tryd.prog 27 #[.slice a n c, .slice a' n' c'] w fun e w' => e = .returned (.bool (l == l')) ∧ ∃ m, w' = w.drewN m := by
  obtain ⟨rfl, r1⟩ := h1.row
  obtain ⟨rfl, r2⟩ := h2.row
  clear h1 h2
  by_cases hl : l.length = l'.length
  · have R1 : Hid (Row w a l.length (fun i => .int .u8 ((l.getD i 0).toNat : Int))) := r1
    have R2 : Hid (Row w a' l'.length (fun i => .int .u8 ((l'.getD i 0).toNat : Int))) := r2
    have HL : Hid (l.length = l'.length) := hl
    have e1 : ((l.length : Int) != (l'.length : Int)) = false := by rw [bne_eq_false_iff_eq]; omega
    have PA := eqb_part l l'
    have PB := eqb_all l l'
    have HA : Hid (∀ k, k < l.length → (((l.getD k 0).toNat : Int) != ((l'.getD k 0).toNat : Int)) = true → (l == l') = false) := fun k _ e => PA k e
    have HB : Hid ((∀ j, j < l.length → (((l.getD j 0).toNat : Int) != ((l'.getD j 0).toNat : Int)) = false) → (l == l') = true) := fun h => PB hl h
    clear r1 r2 PA PB hl
    generalize (l == l') = res at *
    generalize l.length = L1 at *
    generalize l'.length = L2 at *
    have h12 : L1 ≤ L2 := by have := HL.out; omega
    clear HL
    go_enter Tryd.func27, Tryd.ntmps27
    go_wp2
    go_loopw [5] (fun i wr => ∃ k : Nat, k ≤ L1 ∧ i = .int .i64 k ∧ Hid (∀ j, j < k → (((l.getD j 0).toNat : Int) != ((l'.getD j 0).toNat : Int)) = false) ∧ Hid (∃ n, wr = w.drewN n)) (fun i _ => L1 - (intOf i).toNat)
    case atStart => exact ⟨0, Nat.zero_le _, rfl, fun _ h => absurd h (Nat.not_lt_zero _), 0, rfl⟩
    case round =>
      obtain ⟨k, hk, rfl, hno, hw⟩ := hrel
      by_cases hlt : k < L1
      · obtain ⟨b, o, rfl, hc1⟩ := R1.out (by omega)
        obtain ⟨b', o', rfl, hc2⟩ := R2.out (by omega)
        have hc1 : wr.cell? ⟨b, o + k, none⟩ = some (.int .u8 ((l.getD k 0).toNat : Int)) := by
          obtain ⟨n, rfl⟩ := hw.out
          exact hc1 k hlt
        have hc2 : wr.cell? ⟨b', o' + k, none⟩ = some (.int .u8 ((l'.getD k 0).toNat : Int)) := by
          obtain ⟨n, rfl⟩ := hw.out
          exact hc2 k (by omega)
        have hk2 : k < L2 := by omega
        have HAk := HA.out k hlt
        have HAK : Hid ((((l.getD k 0).toNat : Int) != ((l'.getD k 0).toNat : Int)) = true → res = false) := HAk
        clear HAk
        have HNO : Hid (((((l.getD k 0).toNat : Int) != ((l'.getD k 0).toNat : Int)) = false) → ∀ j, j < k + 1 → (((l.getD j 0).toNat : Int) != ((l'.getD j 0).toNat : Int)) = false) := fun h j hj => by
          by_cases e : j = k
          · subst e; exact h
          · exact hno.out j (by omega)
        generalize ((l.getD k 0).toNat : Int) = x1 at *
        generalize ((l'.getD k 0).toNat : Int) = x2 at *
        cases hc : (x1 != x2)
        · go_wp2
          go_quiet (fail)
          go_wp2
          go_roundw
          case rel =>
            go_light
            exact ⟨k + 1, by omega, by go_num, HNO.out hc, drewN_more hw nq⟩
          case measure => simp [intOf]; omega
        · go_wp2
          go_quiet (fail)
          go_wp2
          go_ret
          exact ⟨ret_bool (HAK.out hc).symm, drewN_more hw nq⟩
      · go_wp2
        go_ret
        exact ⟨ret_bool (HB.out fun j hj => hno.out j (by omega)).symm, hw.out⟩
  · have e1 : ((l.length : Int) != (l'.length : Int)) = true := by rw [bne_iff_ne]; omega
    have HR : Hid ((l == l') = false) := by
      show _ = _
      rw [beq_eq_false_iff_ne]
      rintro rfl
      exact hl rfl
    generalize (l == l') = res at *
    generalize l.length = L1 at *
    generalize l'.length = L2 at *
    clear r1 r2
    go_enter Tryd.func27, Tryd.ntmps27
    go_wp2
    go_ret
    exact ⟨ret_bool HR.out.symm, 0, rfl⟩

/-- A list of names in memory. -/
structure Nms (w : World) (a : Option Addr) (n : Nat) (A : Nat → Option Addr) (Ln C : Nat → Nat) (l : Nat → List UInt8) : Prop where
  row : Row w a n (fun i => .slice (A i) (Ln i) (C i))
  sl : ∀ i, i < n → Sl w (.slice (A i) (Ln i) (C i)) (l i)
  le : ∀ i, i < n → Ln i ≤ 9223372036854775807

/-- No earlier name is this one. -/
def isFirst (l : Nat → List UInt8) (k : Nat) : Bool := (List.range k).all fun j => !(l j == l k)

theorem isFirst_no {l : Nat → List UInt8} {k j : Nat} (hj : j < k) (h : (l j == l k) = true) : isFirst l k = false := by
  unfold isFirst
  rw [List.all_eq_false]
  exact ⟨j, List.mem_range.2 hj, by simp [h]⟩

theorem isFirst_yes {l : Nat → List UInt8} {k : Nat} (h : ∀ j, j < k → (l j == l k) = false) : isFirst l k = true := by
  unfold isFirst
  rw [List.all_eq_true]
  intro j hj
  rw [h j (List.mem_range.1 hj)]
  rfl

set_option maxHeartbeats 1000000 in
theorem firstName_calls (a : Option Addr) (n c : Nat) (A : Nat → Option Addr) (Ln C : Nat → Nat) (l : Nat → List UInt8) (k : Nat) (w : World) (h : Nms w a n A Ln C l) (hk : k < n) (hn : n ≤ 65536) :
    Calls Tryd.prog 30 #[.slice a n c, .int .i64 k] w fun e w' => e = .returned (.bool (isFirst l k)) ∧ ∃ m, w' = w.drewN m := by
  have H : Hid (Nms w a n A Ln C l) := h
  obtain ⟨b, o, rfl, hc⟩ := h.row (by omega)
  have HC : Hid (∀ i, i < n → w.cell? ⟨b, o + i, none⟩ = some (.slice (A i) (Ln i) (C i))) := hc
  have HNo : Hid (∀ j, j < k → (l j == l k) = true → isFirst l k = false) := fun j hj e => isFirst_no hj e
  have HYes : Hid ((∀ j, j < k → (l j == l k) = false) → isFirst l k = true) := isFirst_yes
  clear h hc
  generalize isFirst l k = res at *
  go_enter Tryd.func30, Tryd.ntmps30
  go_wp2
  go_loopw [5] (fun i wr => ∃ j : Nat, j ≤ k ∧ i = .int .i64 j ∧ Hid (∀ i, i < j → (l i == l k) = false) ∧ Hid (∃ n, wr = w.drewN n)) (fun i _ => k - (intOf i).toNat)
  case atStart => exact ⟨0, Nat.zero_le _, rfl, fun _ h => absurd h (Nat.not_lt_zero _), 0, rfl⟩
  case round =>
    obtain ⟨j, hj, rfl, hno, hw⟩ := hrel
    by_cases hlt : j < k
    · have c1 : wr.cell? ⟨b, o + j, none⟩ = some (.slice (A j) (Ln j) (C j)) := by
        obtain ⟨n, rfl⟩ := hw.out
        exact HC.out j (by omega)
      have c2 : wr.cell? ⟨b, o + k, none⟩ = some (.slice (A k) (Ln k) (C k)) := by
        obtain ⟨n, rfl⟩ := hw.out
        exact HC.out k hk
      have EQ : Hid (∀ m, Calls Tryd.prog 27 #[.slice (A j) (Ln j) (C j), .slice (A k) (Ln k) (C k)] (wr.drewN m) fun e w' => e = .returned (.bool (l j == l k)) ∧ ∃ q, w' = (wr.drewN m).drewN q) := fun m => by
        obtain ⟨n, rfl⟩ := hw.out
        exact eqBytes_calls _ _ _ _ _ _ _ _ _ (H.out.sl j (by omega)) (H.out.sl k hk) (H.out.le j (by omega))
      have hjn : j < n := by omega
      have N1 := HNo.out j hlt
      have HN1 : Hid ((l j == l k) = true → res = false) := N1
      have HN2 : Hid ((l j == l k) = false → ∀ i, i < j + 1 → (l i == l k) = false) := fun h i hi => by
        by_cases e : i = j
        · subst e; exact h
        · exact hno.out i (by omega)
      clear N1
      generalize (l j == l k) = q at *
      generalize A j = Aj at *
      generalize Ln j = Lj at *
      generalize C j = Cj at *
      generalize A k = Ak at *
      generalize Ln k = Lk at *
      generalize C k = Ck at *
      cases q
      · go_wp2
        go_quiet ((go_at_call 27; exact Calls.quiet_of (EQ.out _)))
        go_wp2
        go_roundw
        case rel =>
          go_light
          exact ⟨j + 1, by omega, by go_num, HN2.out (by simp), drewN_more hw nq⟩
        case measure => simp [intOf]; omega
      · go_wp2
        go_quiet ((go_at_call 27; exact Calls.quiet_of (EQ.out _)))
        go_wp2
        go_ret
        exact ⟨ret_bool (HN1.out (by simp)).symm, drewN_more hw nq⟩
    · go_wp2
      go_ret
      exact ⟨ret_bool (HYes.out fun i hi => hno.out i (by omega)).symm, hw.out⟩

/-- How many of the first n names are no repeats. -/
def firsts (l : Nat → List UInt8) : Nat → Nat
  | 0 => 0
  | n + 1 => firsts l n + if isFirst l n then 1 else 0

theorem firsts_le (l : Nat → List UInt8) : ∀ n, firsts l n ≤ n
  | 0 => Nat.le_refl _
  | n + 1 => by have := firsts_le l n; unfold firsts; split <;> omega

set_option maxHeartbeats 1000000 in
theorem countFirsts_calls (a : Option Addr) (n c : Nat) (A : Nat → Option Addr) (Ln C : Nat → Nat) (l : Nat → List UInt8) (w : World) (h : Nms w a n A Ln C l) (hn : n ≤ 65536) :
    Calls Tryd.prog 24 #[.slice a n c] w fun e w' => e = .returned (.int .i64 (firsts l n : Nat)) ∧ ∃ m, w' = w.drewN m := by
  have H : Hid (Nms w a n A Ln C l) := h
  clear h
  go_enter Tryd.func24, Tryd.ntmps24
  go_wp2
  go_loopw [3, 4] (fun q i wr => ∃ k : Nat, k ≤ n ∧ i = .int .i64 k ∧ q = .int .i64 (firsts l k : Nat) ∧ Hid (∃ n, wr = w.drewN n)) (fun _ i _ => n - (intOf i).toNat)
  case atStart => exact ⟨0, Nat.zero_le _, rfl, rfl, 0, rfl⟩
  case round =>
    obtain ⟨k, hk, rfl, rfl, hw⟩ := hrel
    have hf := firsts_le l k
    by_cases hlt : k < n
    · have EQ : Hid (Calls Tryd.prog 30 #[.slice a n c, .int .i64 k] wr fun e w' => e = .returned (.bool (isFirst l k)) ∧ ∃ q, w' = wr.drewN q) := by
        obtain ⟨n, rfl⟩ := hw.out
        exact firstName_calls a _ c A Ln C l k _ ⟨H.out.row, H.out.sl, H.out.le⟩ hlt hn
      have HS : Hid (firsts l (k + 1) = firsts l k + if isFirst l k then 1 else 0) := rfl
      generalize isFirst l k = q at *
      cases q
      · go_wp2_with (go_at_call 30; refine EQ.out.mono ?_; rintro e w' ⟨rfl, q, rfl⟩)
        go_roundw
        case rel => exact ⟨k + 1, by omega, by go_num, by rw [HS.out]; rfl, drewN_more hw q⟩
        case measure => simp [intOf]; omega
      · go_wp2_with (go_at_call 30; refine EQ.out.mono ?_; rintro e w' ⟨rfl, q, rfl⟩)
        go_roundw
        case rel => exact ⟨k + 1, by omega, by go_num, by rw [HS.out]; go_num, drewN_more hw q⟩
        case measure => simp [intOf]; omega
    · obtain rfl : k = n := by omega
      go_wp2
      go_ret
      exact ⟨rfl, hw.out⟩

end Go.Proofs.Qxb6613752aDoor.W
