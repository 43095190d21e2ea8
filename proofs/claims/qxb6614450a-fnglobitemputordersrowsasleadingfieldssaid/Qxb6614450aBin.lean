import Derived.Test.Qxb6614450aSearch
import Derived.Deep.RegionHeld3
namespace Go.Proofs.Qxb6614450a.W
open Go.RowKit

/-- Objects in a row. -/
def Objs (w : World) (a : Option Addr) (n : Nat) (F : Nat → Nat → Nat) : Prop := 0 < n → ∃ b o, a = some ⟨b, o, none⟩ ∧ ∀ i, i < n → w.rangeAt b (o + i * 24) (objL (F i))

theorem rangeAt_below {w w' : World} {b o : Nat} {cs : List Value} (h : w.rangeAt b o cs) (k : Below w.heap.size w w') : w'.rangeAt b o cs := fun j v hv =>
  (k.cell (p := ⟨b, o + j, none⟩) (cell_lt (h j v hv))).trans (h j v hv)

theorem Objs.below {w w' : World} {a : Option Addr} {n : Nat} {F : Nat → Nat → Nat} (h : Objs w a n F) (k : Below w.heap.size w w') : Objs w' a n F := fun hn => by
  obtain ⟨b, o, rfl, hc⟩ := h hn
  exact ⟨b, o, rfl, fun i hi => rangeAt_below (hc i hi) k⟩

/-- The objects' ids as numbers. -/
def num (F : Nat → Nat → Nat) (i : Nat) : Nat := val (F i) 20

/-- Is x among the first n? -/
def has (X : Nat → Nat) (n x : Nat) : Bool := (List.range n).any fun i => X i == x

theorem has_iff (X : Nat → Nat) (n x : Nat) : has X n x = true ↔ ∃ i, i < n ∧ X i = x := by
  simp [has, List.any_eq_true, List.mem_range]

def Sorted (X : Nat → Nat) (n : Nat) : Prop := ∀ i j, i ≤ j → j < n → X i ≤ X j

set_option linter.unusedSimpArgs false
set_option maxHeartbeats 2000000 in
set_option maxRecDepth 100000 in
theorem bsearch_calls (a : Option Addr) (n c : Nat) (F : Nat → Nat → Nat) (g : Nat → Nat) (w : World) (hn : n ≤ 65536) (ho : Objs w a n F) (hF : ∀ i j, F i j < 256) (hg : ∀ j, g j < 256) (hs : Sorted (num F) n) :
    Calls Try.prog 31 #[.slice a n c, .agg (idL g).toArray, .func (.func 32) #[] #[]] w fun e w' => (∃ i : Nat, e = .returned (.tuple #[.int .i64 i, .bool (has (num F) n (val g 20))])) ∧ Below w.heap.size w w' := by
  have HO : Hid (Objs (w.alloc (.cells (idL g).toArray 30)) a n F) := ho.below (below_alloc _ _)
  have HB : Hid ((w.alloc (.cells (idL g).toArray 30)).rangeAt w.heap.size 0 (idL g)) := (At.new w g 30).range
  have B1 : Hid (Below w.heap.size w (w.alloc (.cells (idL g).toArray 30))) := below_alloc _ _
  have HS : Hid (Sorted (num F) n) := hs
  have HF : Hid (∀ i j, F i j < 256) := hF
  have HGG : Hid (∀ j, g j < 256) := hg
  clear ho hs hF hg
  go_enter Try.func31, Try.ntmps31
  go_wp2_with fail
  generalize w.alloc (.cells (idL g).toArray 30) = W1 at *
  obtain ⟨B, hBB⟩ : ∃ B, B = w.heap.size := ⟨_, rfl⟩
  rw [← hBB] at HB
  rw [← hBB]
  clear hBB
  go_loopg [9, 10] n (fun gk i j wr => ∃ p q : Nat, p ≤ q ∧ q ≤ n ∧ i = .int .i64 p ∧ j = .int .i64 q ∧ Hid (q - p ≤ gk) ∧ Hid (∀ m, m < p → num F m < val g 20) ∧ Hid (∀ m, q ≤ m → m < n → val g 20 ≤ num F m) ∧ Hid (Keeps W1 wr))
  case atStart => exact ⟨0, n, Nat.zero_le _, Nat.le_refl _, rfl, rfl, by show _ ≤ _; omega, fun _ h => absurd h (Nat.not_lt_zero _), fun m h1 h2 => absurd h2 (by omega), ⟨Below.refl _ _⟩⟩
  case round =>
    obtain ⟨p, q, hpq, hq, rfl, rfl, HG, HL, HR, HK⟩ := hrel
    by_cases hlt : p < q
    · obtain ⟨b, o, rfl, hr⟩ := HO.out (by omega)
      obtain ⟨m, hm⟩ : ∃ m, m = (p + q) / 2 := ⟨_, rfl⟩
      have hm1 : p ≤ m := by omega
      have hm2 : m < q := by omega
      have hmn : m < n := by omega
      have RM : Hid (W1.rangeAt b (o + m * 24) (objL (F m))) := hr m hmn
      have HM : Hid (((p : Int) + (q : Int)) / 2 = (m : Int)) := by show _ = _; omega
      have CC : Hid (∀ W, Keeps W1 W → Calls Try.prog 32 #[.agg (objL (F m)).toArray, .agg (idL g).toArray] W fun e w' => e = .returned (.int .i64 (cmp3 (val (F m) 20) (val g 20))) ∧ Keeps W1 w') := fun W hW =>
        (compareObjectID_calls (F m) g (HF.out m) HGG.out W).mono fun e w' h => ⟨h.1, ⟨bthen hW.b h.2⟩⟩
      have NL : Hid (cmp3 (val (F m) 20) (val g 20) < 0 → ∀ k, k < m + 1 → num F k < val g 20) := fun h k hk => by
        have h1 := cmp3_neg (val (F m) 20) (val g 20)
        rw [decide_eq_true h] at h1
        have h2 : num F m < val g 20 := of_decide_eq_true h1.symm
        exact Nat.lt_of_le_of_lt (HS.out k m (by omega) (by omega)) h2
      have NR : Hid (¬ cmp3 (val (F m) 20) (val g 20) < 0 → ∀ k, m ≤ k → k < n → val g 20 ≤ num F k) := fun h k hk hk2 => by
        have h1 := cmp3_neg (val (F m) 20) (val g 20)
        rw [decide_eq_false h] at h1
        have h2 : ¬ num F m < val g 20 := of_decide_eq_false h1.symm
        exact Nat.le_trans (by omega) (HS.out m k hk hk2)
      clear hr hm
      go_wp2_with fail
      rw [HM.out]
      clear HM
      generalize cmp3 (val (F m) 20) (val g 20) = r at *
      refine wp_region_held_drew (S := fun w' => Keeps W1 w') (by kernel_rfl) ⟨HK.out.b.drew⟩ (fun hHeld => ?_)
      refine wpAnyH_take (i := 0) (v := .func (.func 32) #[] #[]) rfl (by kernel_rfl) (by kernel_rfl) (by kernel_rfl) (fun _ _ _ h => h) (Or.inl ⟨by kernel_rfl, fun w hSw => by go_simp⟩) (by assumption) ?_
      change wpAnyH _ _ _ _ _ _ _ (Act.put _ (some 24) _) _
      try simp only [Act.put, List.setIfInBounds_toArray, List.set_cons_zero, List.set_cons_succ]
      refine wpAnyH_take (i := 1) (v := .slice (some ⟨b, o, none⟩) n c) rfl (by kernel_rfl) (by kernel_rfl) (by kernel_rfl) (fun _ _ _ h => h) (Or.inl ⟨by kernel_rfl, fun w hSw => by go_simp⟩) (by assumption) ?_
      change wpAnyH _ _ _ _ _ _ _ (Act.put _ (some 25) _) _
      try simp only [Act.put, List.setIfInBounds_toArray, List.set_cons_zero, List.set_cons_succ]
      refine wpAnyH_take (i := 2) (v := .int .i64 m) rfl (by kernel_rfl) (by kernel_rfl) (by kernel_rfl) (fun _ _ _ h => h) (Or.inl ⟨by kernel_rfl, fun w hSw => by go_simp⟩) (by assumption) ?_
      change wpAnyH _ _ _ _ _ _ _ (Act.put _ (some 26) _) _
      try simp only [Act.put, List.setIfInBounds_toArray, List.set_cons_zero, List.set_cons_succ]
      refine wpAnyH_take (i := 3) (v := .pointer (some ⟨b, o + m * 24, none⟩)) rfl (by kernel_rfl) (by kernel_rfl) (by kernel_rfl) (fun _ _ _ h => h) (Or.inl ⟨by kernel_rfl, fun w hSw => by go_simp⟩) (by assumption) ?_
      change wpAnyH _ _ _ _ _ _ _ (Act.put _ (some 27) _) _
      try simp only [Act.put, List.setIfInBounds_toArray, List.set_cons_zero, List.set_cons_succ]
      refine wpAnyH_take (i := 4) (v := .agg (objL (F m)).toArray) rfl (by kernel_rfl) (by kernel_rfl) (by kernel_rfl) (fun _ _ _ h => h) ?hy4 (by assumption) ?_
      case hy4 =>
        refine yieldsIf_load_mid ?hw4 53 _ rfl b (o + m * 24) ?hx4 (objL (F m)) _ (fun w hw => rangeAt_below RM.out hw.b) Try.underlying53 rfl (szL53 (F m))
        case hw4 => kernel_rfl
        case hx4 => kernel_rfl
      change wpAnyH _ _ _ _ _ _ _ (Act.put _ (some 28) _) _
      try simp only [Act.put, List.setIfInBounds_toArray, List.set_cons_zero, List.set_cons_succ]
      refine wpAnyH_take (i := 5) (v := .agg (idL g).toArray) rfl (by kernel_rfl) (by kernel_rfl) (by kernel_rfl) (fun _ _ _ h => h) ?hy5 (by assumption) ?_
      case hy5 =>
        refine yieldsIf_load_mid ?hw5 30 _ rfl B (0) ?hx5 (idL g) _ (fun w hw => rangeAt_below HB.out hw.b) Try.underlying30 rfl (szL30 g)
        case hw5 => kernel_rfl
        case hx5 => kernel_rfl
      change wpAnyH _ _ _ _ _ _ _ (Act.put _ (some 29) _) _
      try simp only [Act.put, List.setIfInBounds_toArray, List.set_cons_zero, List.set_cons_succ]
      refine wpAnyH_ready (rs := [6]) (by kernel_rfl) (by simp) ?_
      refine AllReadyH.cons (o := _) rfl (fun K hK => ?_) AllReadyH.nil
      rw [if_pos (by kernel_rfl)]
      go_simp
      refine (CC.out _ (by assumption)).mono ?_
      rintro e w7 ⟨rfl, h7⟩
      refine hK.out _ _ h7 (fun hHeld2 => ?_)
      clear hK K
      try simp only [Act.put, List.setIfInBounds_toArray, List.set_cons_zero, List.set_cons_succ]
      refine wpAnyH_take (i := 7) (v := .bool (decide (r < 0))) rfl (by kernel_rfl) (by kernel_rfl) (by kernel_rfl) (fun _ _ _ h => h) (Or.inl ⟨by kernel_rfl, fun w hSw => by go_simp⟩) (by assumption) ?_
      change wpAnyH _ _ _ _ _ _ _ (Act.put _ (some 31) _) _
      try simp only [Act.put, List.setIfInBounds_toArray, List.set_cons_zero, List.set_cons_succ]
      refine wpAnyH_done (by kernel_rfl) ?_ _
      have HK7 : Hid (Keeps W1 w7) := h7
      clear h7 CC hHeld hHeld2
      by_cases hr0 : r < 0
      · have s1 : decide (r < 0) = true := by simpa using hr0
        go_wp2_with fail
        go_roundg (q - (m + 1))
        case measure => have := HG.out; omega
        case rel => exact ⟨m + 1, q, by omega, hq, by go_num, rfl, by show _ ≤ _; omega, NL.out hr0, HR, HK7⟩
      · have s1 : decide (r < 0) = false := by simpa using hr0
        go_wp2_with fail
        go_roundg (m - p)
        case measure => have := HG.out; omega
        case rel => exact ⟨p, m, hm1, by omega, rfl, rfl, by show _ ≤ _; omega, HL, NR.out hr0, HK7⟩
    · obtain rfl : p = q := by omega
      by_cases hpn : p < n
      · obtain ⟨b, o, rfl, hr⟩ := HO.out (by omega)
        have RM : Hid (W1.rangeAt b (o + p * 24) (objL (F p))) := hr p hpn
        have CC : Hid (∀ W, Keeps W1 W → Calls Try.prog 32 #[.agg (objL (F p)).toArray, .agg (idL g).toArray] W fun e w' => e = .returned (.int .i64 (cmp3 (val (F p) 20) (val g 20))) ∧ Keeps W1 w') := fun W hW =>
          (compareObjectID_calls (F p) g (HF.out p) HGG.out W).mono fun e w' h => ⟨h.1, ⟨bthen hW.b h.2⟩⟩
        have RES : Hid ((cmp3 (val (F p) 20) (val g 20) == 0) = has (num F) n (val g 20)) := by
          show _ = _
          rw [cmp3_zero]
          by_cases e : val (F p) 20 = val g 20
          · rw [decide_eq_true e]
            exact ((has_iff _ _ _).2 ⟨p, hpn, e⟩).symm
          · rw [decide_eq_false e]
            symm
            rw [Bool.eq_false_iff]
            intro h
            obtain ⟨k, hk, hk2⟩ := (has_iff _ _ _).1 h
            by_cases hkp : k < p
            · have := HL.out k hkp
              omega
            · have h1 := HR.out p (Nat.le_refl _) hpn
              have h2 : num F p ≤ num F k := HS.out p k (by omega) hk
              have h3 : num F p ≠ val g 20 := e
              omega
        clear hr
        go_wp2_with fail
        generalize cmp3 (val (F p) 20) (val g 20) = r at *
        refine wp_region_held_drew (S := fun w' => Keeps W1 w') (by kernel_rfl) ⟨HK.out.b.drew⟩ (fun hHeld => ?_)
        refine wpAnyH_take (i := 0) (v := .int .i64 p) rfl (by kernel_rfl) (by kernel_rfl) (by kernel_rfl) (fun _ _ _ h => h) (Or.inl ⟨by kernel_rfl, fun w hSw => by go_simp⟩) (by assumption) ?_
        change wpAnyH _ _ _ _ _ _ _ (Act.put _ (some 35) _) _
        try simp only [Act.put, List.setIfInBounds_toArray, List.set_cons_zero, List.set_cons_succ]
        refine wpAnyH_take (i := 1) (v := .int .i64 p) rfl (by kernel_rfl) (by kernel_rfl) (by kernel_rfl) (fun _ _ _ h => h) (Or.inl ⟨by kernel_rfl, fun w hSw => by go_simp⟩) (by assumption) ?_
        change wpAnyH _ _ _ _ _ _ _ (Act.put _ (some 36) _) _
        try simp only [Act.put, List.setIfInBounds_toArray, List.set_cons_zero, List.set_cons_succ]
        refine wpAnyH_take (i := 2) (v := .int .i64 n) rfl (by kernel_rfl) (by kernel_rfl) (by kernel_rfl) (fun _ _ _ h => h) (Or.inl ⟨by kernel_rfl, fun w hSw => by go_simp⟩) (by assumption) ?_
        change wpAnyH _ _ _ _ _ _ _ (Act.put _ (some 37) _) _
        try simp only [Act.put, List.setIfInBounds_toArray, List.set_cons_zero, List.set_cons_succ]
        refine wpAnyH_take (i := 3) (v := .bool true) rfl (by kernel_rfl) (by kernel_rfl) (by kernel_rfl) (fun _ _ _ h => h) (Or.inl ⟨by kernel_rfl, fun w hSw => by go_simp⟩) (by assumption) ?_
        change wpAnyH _ _ _ _ _ _ _ (Act.put _ (some 38) _) _
        try simp only [Act.put, List.setIfInBounds_toArray, List.set_cons_zero, List.set_cons_succ]
        refine wpAnyH_take (i := 4) (v := .bool true) rfl (by kernel_rfl) (by kernel_rfl) (by kernel_rfl) (fun _ _ _ h => h) (Or.inl ⟨by kernel_rfl, fun w hSw => by go_simp⟩) (by assumption) ?_
        change wpAnyH _ _ _ _ _ _ _ (Act.put _ (some 39) _) _
        try simp only [Act.put, List.setIfInBounds_toArray, List.set_cons_zero, List.set_cons_succ]
        refine wpAnyH_take (i := 5) (v := .func (.func 32) #[] #[]) rfl (by kernel_rfl) (by kernel_rfl) (by kernel_rfl) (fun _ _ _ h => h) (Or.inl ⟨by kernel_rfl, fun w hSw => by go_simp⟩) (by assumption) ?_
        change wpAnyH _ _ _ _ _ _ _ (Act.put _ (some 40) _) _
        try simp only [Act.put, List.setIfInBounds_toArray, List.set_cons_zero, List.set_cons_succ]
        refine wpAnyH_take (i := 6) (v := .slice (some ⟨b, o, none⟩) n c) rfl (by kernel_rfl) (by kernel_rfl) (by kernel_rfl) (fun _ _ _ h => h) (Or.inl ⟨by kernel_rfl, fun w hSw => by go_simp⟩) (by assumption) ?_
        change wpAnyH _ _ _ _ _ _ _ (Act.put _ (some 41) _) _
        try simp only [Act.put, List.setIfInBounds_toArray, List.set_cons_zero, List.set_cons_succ]
        refine wpAnyH_take (i := 7) (v := .int .i64 p) rfl (by kernel_rfl) (by kernel_rfl) (by kernel_rfl) (fun _ _ _ h => h) (Or.inl ⟨by kernel_rfl, fun w hSw => by go_simp⟩) (by assumption) ?_
        change wpAnyH _ _ _ _ _ _ _ (Act.put _ (some 42) _) _
        try simp only [Act.put, List.setIfInBounds_toArray, List.set_cons_zero, List.set_cons_succ]
        refine wpAnyH_take (i := 8) (v := .pointer (some ⟨b, o + p * 24, none⟩)) rfl (by kernel_rfl) (by kernel_rfl) (by kernel_rfl) (fun _ _ _ h => h) (Or.inl ⟨by kernel_rfl, fun w hSw => by go_simp⟩) (by assumption) ?_
        change wpAnyH _ _ _ _ _ _ _ (Act.put _ (some 43) _) _
        try simp only [Act.put, List.setIfInBounds_toArray, List.set_cons_zero, List.set_cons_succ]
        refine wpAnyH_take (i := 9) (v := .agg (objL (F p)).toArray) rfl (by kernel_rfl) (by kernel_rfl) (by kernel_rfl) (fun _ _ _ h => h) ?hy9 (by assumption) ?_
        case hy9 =>
          refine yieldsIf_load_mid ?hw9 53 _ rfl b (o + p * 24) ?hx9 (objL (F p)) _ (fun w hw => rangeAt_below RM.out hw.b) Try.underlying53 rfl (szL53 (F p))
          case hw9 => kernel_rfl
          case hx9 => kernel_rfl
        change wpAnyH _ _ _ _ _ _ _ (Act.put _ (some 44) _) _
        try simp only [Act.put, List.setIfInBounds_toArray, List.set_cons_zero, List.set_cons_succ]
        refine wpAnyH_take (i := 10) (v := .agg (idL g).toArray) rfl (by kernel_rfl) (by kernel_rfl) (by kernel_rfl) (fun _ _ _ h => h) ?hy10 (by assumption) ?_
        case hy10 =>
          refine yieldsIf_load_mid ?hw10 30 _ rfl B (0) ?hx10 (idL g) _ (fun w hw => rangeAt_below HB.out hw.b) Try.underlying30 rfl (szL30 g)
          case hw10 => kernel_rfl
          case hx10 => kernel_rfl
        change wpAnyH _ _ _ _ _ _ _ (Act.put _ (some 45) _) _
        try simp only [Act.put, List.setIfInBounds_toArray, List.set_cons_zero, List.set_cons_succ]
        refine wpAnyH_ready (rs := [11]) (by kernel_rfl) (by simp) ?_
        refine AllReadyH.cons (o := _) rfl (fun K hK => ?_) AllReadyH.nil
        rw [if_pos (by kernel_rfl)]
        go_simp
        refine (CC.out _ (by assumption)).mono ?_
        rintro e w7 ⟨rfl, h7⟩
        refine hK.out _ _ h7 (fun hHeld2 => ?_)
        clear hK K
        try simp only [Act.put, List.setIfInBounds_toArray, List.set_cons_zero, List.set_cons_succ]
        refine wpAnyH_take (i := 12) (v := .bool (r == 0)) rfl (by kernel_rfl) (by kernel_rfl) (by kernel_rfl) (fun _ _ _ h => h) (Or.inl ⟨by kernel_rfl, fun w hSw => by go_simp⟩) (by assumption) ?_
        change wpAnyH _ _ _ _ _ _ _ (Act.put _ (some 47) _) _
        try simp only [Act.put, List.setIfInBounds_toArray, List.set_cons_zero, List.set_cons_succ]
        refine wpAnyH_take (i := 13) (v := .bool (r == 0)) rfl (by kernel_rfl) (by kernel_rfl) (by kernel_rfl) (fun _ _ _ h => h) (Or.inl ⟨by kernel_rfl, fun w hSw => by go_simp⟩) (by assumption) ?_
        change wpAnyH _ _ _ _ _ _ _ (Act.put _ (some 48) _) _
        try simp only [Act.put, List.setIfInBounds_toArray, List.set_cons_zero, List.set_cons_succ]
        refine wpAnyH_take (i := 14) (v := .int .i64 p) rfl (by kernel_rfl) (by kernel_rfl) (by kernel_rfl) (fun _ _ _ h => h) (Or.inl ⟨by kernel_rfl, fun w hSw => by go_simp⟩) (by assumption) ?_
        change wpAnyH _ _ _ _ _ _ _ (Act.put _ (some 6) _) _
        try simp only [Act.put, List.setIfInBounds_toArray, List.set_cons_zero, List.set_cons_succ]
        refine wpAnyH_take (i := 15) (v := .bool (r == 0)) rfl (by kernel_rfl) (by kernel_rfl) (by kernel_rfl) (fun _ _ _ h => h) (Or.inl ⟨by kernel_rfl, fun w hSw => by go_simp⟩) (by assumption) ?_
        change wpAnyH _ _ _ _ _ _ _ (Act.put _ (some 7) _) _
        try simp only [Act.put, List.setIfInBounds_toArray, List.set_cons_zero, List.set_cons_succ]
        refine wpAnyH_done (by kernel_rfl) ?_ _
        have HK7 : Hid (Keeps W1 w7) := h7
        clear h7 CC hHeld hHeld2
        go_wp2_with fail
        go_ret2
        exact ⟨⟨p, by show Ending.returned (.tuple #[.int .i64 p, .bool (r == 0)]) = _; rw [RES.out]⟩, bthen B1.out HK7.out.b⟩
      · have RES : Hid (false = has (num F) n (val g 20)) := by
          show _ = _
          symm
          rw [Bool.eq_false_iff]
          intro h
          obtain ⟨k, hk, hk2⟩ := (has_iff _ _ _).1 h
          have := HL.out k (by omega)
          omega
        obtain rfl : p = n := by omega
        go_wp2_with fail
        refine wp_region_held_drew (S := fun w' => Keeps W1 w') (by kernel_rfl) ⟨HK.out.b.drew⟩ (fun hHeld => ?_)
        refine wpAnyH_take (i := 0) (v := .int .i64 p) rfl (by kernel_rfl) (by kernel_rfl) (by kernel_rfl) (fun _ _ _ h => h) (Or.inl ⟨by kernel_rfl, fun w hSw => by go_simp⟩) (by assumption) ?_
        change wpAnyH _ _ _ _ _ _ _ (Act.put _ (some 35) _) _
        try simp only [Act.put, List.setIfInBounds_toArray, List.set_cons_zero, List.set_cons_succ]
        refine wpAnyH_take (i := 1) (v := .int .i64 p) rfl (by kernel_rfl) (by kernel_rfl) (by kernel_rfl) (fun _ _ _ h => h) (Or.inl ⟨by kernel_rfl, fun w hSw => by go_simp⟩) (by assumption) ?_
        change wpAnyH _ _ _ _ _ _ _ (Act.put _ (some 36) _) _
        try simp only [Act.put, List.setIfInBounds_toArray, List.set_cons_zero, List.set_cons_succ]
        refine wpAnyH_take (i := 2) (v := .int .i64 p) rfl (by kernel_rfl) (by kernel_rfl) (by kernel_rfl) (fun _ _ _ h => h) (Or.inl ⟨by kernel_rfl, fun w hSw => by go_simp⟩) (by assumption) ?_
        change wpAnyH _ _ _ _ _ _ _ (Act.put _ (some 37) _) _
        try simp only [Act.put, List.setIfInBounds_toArray, List.set_cons_zero, List.set_cons_succ]
        refine wpAnyH_take (i := 3) (v := .bool false) rfl (by kernel_rfl) (by kernel_rfl) (by kernel_rfl) (fun _ _ _ h => h) (Or.inl ⟨by kernel_rfl, fun w hSw => by go_simp⟩) (by assumption) ?_
        change wpAnyH _ _ _ _ _ _ _ (Act.put _ (some 38) _) _
        try simp only [Act.put, List.setIfInBounds_toArray, List.set_cons_zero, List.set_cons_succ]
        refine wpAnyH_take (i := 4) (v := .bool false) rfl (by kernel_rfl) (by kernel_rfl) (by kernel_rfl) (fun _ _ _ h => h) (Or.inl ⟨by kernel_rfl, fun w hSw => by go_simp⟩) (by assumption) ?_
        change wpAnyH _ _ _ _ _ _ _ (Act.put _ (some 39) _) _
        try simp only [Act.put, List.setIfInBounds_toArray, List.set_cons_zero, List.set_cons_succ]
        refine wpAnyH_take (i := 5) (v := undef) rfl (by kernel_rfl) (by kernel_rfl) (by kernel_rfl) (fun _ _ _ h => h) (Or.inr ⟨by kernel_rfl, rfl⟩) (by assumption) ?_
        change wpAnyH _ _ _ _ _ _ _ (Act.put _ (some 40) _) _
        try simp only [Act.put, List.setIfInBounds_toArray, List.set_cons_zero, List.set_cons_succ]
        refine wpAnyH_take (i := 6) (v := undef) rfl (by kernel_rfl) (by kernel_rfl) (by kernel_rfl) (fun _ _ _ h => h) (Or.inr ⟨by kernel_rfl, rfl⟩) (by assumption) ?_
        change wpAnyH _ _ _ _ _ _ _ (Act.put _ (some 41) _) _
        try simp only [Act.put, List.setIfInBounds_toArray, List.set_cons_zero, List.set_cons_succ]
        refine wpAnyH_take (i := 7) (v := undef) rfl (by kernel_rfl) (by kernel_rfl) (by kernel_rfl) (fun _ _ _ h => h) (Or.inr ⟨by kernel_rfl, rfl⟩) (by assumption) ?_
        change wpAnyH _ _ _ _ _ _ _ (Act.put _ (some 42) _) _
        try simp only [Act.put, List.setIfInBounds_toArray, List.set_cons_zero, List.set_cons_succ]
        refine wpAnyH_take (i := 8) (v := undef) rfl (by kernel_rfl) (by kernel_rfl) (by kernel_rfl) (fun _ _ _ h => h) (Or.inr ⟨by kernel_rfl, rfl⟩) (by assumption) ?_
        change wpAnyH _ _ _ _ _ _ _ (Act.put _ (some 43) _) _
        try simp only [Act.put, List.setIfInBounds_toArray, List.set_cons_zero, List.set_cons_succ]
        refine wpAnyH_take (i := 9) (v := undef) rfl (by kernel_rfl) (by kernel_rfl) (by kernel_rfl) (fun _ _ _ h => h) (Or.inr ⟨by kernel_rfl, rfl⟩) (by assumption) ?_
        change wpAnyH _ _ _ _ _ _ _ (Act.put _ (some 44) _) _
        try simp only [Act.put, List.setIfInBounds_toArray, List.set_cons_zero, List.set_cons_succ]
        refine wpAnyH_take (i := 10) (v := undef) rfl (by kernel_rfl) (by kernel_rfl) (by kernel_rfl) (fun _ _ _ h => h) (Or.inr ⟨by kernel_rfl, rfl⟩) (by assumption) ?_
        change wpAnyH _ _ _ _ _ _ _ (Act.put _ (some 45) _) _
        try simp only [Act.put, List.setIfInBounds_toArray, List.set_cons_zero, List.set_cons_succ]
        refine wpAnyH_take (i := 11) (v := undef) rfl (by kernel_rfl) (by kernel_rfl) (by kernel_rfl) (fun _ _ _ h => h) (Or.inr ⟨by kernel_rfl, rfl⟩) (by assumption) ?_
        change wpAnyH _ _ _ _ _ _ _ (Act.put _ (some 46) _) _
        try simp only [Act.put, List.setIfInBounds_toArray, List.set_cons_zero, List.set_cons_succ]
        refine wpAnyH_take (i := 12) (v := undef) rfl (by kernel_rfl) (by kernel_rfl) (by kernel_rfl) (fun _ _ _ h => h) (Or.inr ⟨by kernel_rfl, rfl⟩) (by assumption) ?_
        change wpAnyH _ _ _ _ _ _ _ (Act.put _ (some 47) _) _
        try simp only [Act.put, List.setIfInBounds_toArray, List.set_cons_zero, List.set_cons_succ]
        refine wpAnyH_take (i := 13) (v := .bool false) rfl (by kernel_rfl) (by kernel_rfl) (by kernel_rfl) (fun _ _ _ h => h) (Or.inl ⟨by kernel_rfl, fun w hSw => by go_simp⟩) (by assumption) ?_
        change wpAnyH _ _ _ _ _ _ _ (Act.put _ (some 48) _) _
        try simp only [Act.put, List.setIfInBounds_toArray, List.set_cons_zero, List.set_cons_succ]
        refine wpAnyH_take (i := 14) (v := .int .i64 p) rfl (by kernel_rfl) (by kernel_rfl) (by kernel_rfl) (fun _ _ _ h => h) (Or.inl ⟨by kernel_rfl, fun w hSw => by go_simp⟩) (by assumption) ?_
        change wpAnyH _ _ _ _ _ _ _ (Act.put _ (some 6) _) _
        try simp only [Act.put, List.setIfInBounds_toArray, List.set_cons_zero, List.set_cons_succ]
        refine wpAnyH_take (i := 15) (v := .bool false) rfl (by kernel_rfl) (by kernel_rfl) (by kernel_rfl) (fun _ _ _ h => h) (Or.inl ⟨by kernel_rfl, fun w hSw => by go_simp⟩) (by assumption) ?_
        change wpAnyH _ _ _ _ _ _ _ (Act.put _ (some 7) _) _
        try simp only [Act.put, List.setIfInBounds_toArray, List.set_cons_zero, List.set_cons_succ]
        refine wpAnyH_done (by kernel_rfl) ?_ _
        go_wp2_with fail
        go_ret2
        exact ⟨⟨p, by show Ending.returned (.tuple #[.int .i64 p, .bool false]) = _; rw [RES.out]⟩, bthen B1.out HK.out.b.drew⟩

end Go.Proofs.Qxb6614450a.W
