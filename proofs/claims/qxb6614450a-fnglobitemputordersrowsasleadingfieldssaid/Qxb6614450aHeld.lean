import Derived.Test.Qxb6614450aBin
namespace Go.Proofs.Qxb6614450a.W
open Go.RowKit
set_option linter.unusedSimpArgs false

set_option maxHeartbeats 1000000 in
theorem holds_calls (a : Option Addr) (n c : Nat) (F : Nat → Nat → Nat) (g : Nat → Nat) (w : World) (hn : n ≤ 65536) (ho : Objs w a n F) (hF : ∀ i j, F i j < 256) (hg : ∀ j, g j < 256) (hs : Sorted (num F) n) :
    Calls Try.prog 26 #[.slice a n c, .agg (idL g).toArray] w fun e w' => e = .returned (.bool (has (num F) n (val g 20))) ∧ Below w.heap.size w w' := by
  have L2 : Hid ((w.alloc (.cells (idL g).toArray 30)).rangeAt w.heap.size 0 (idL g)) := (At.new w g 30).range
  have B1 : Hid (Below w.heap.size w (w.alloc (.cells (idL g).toArray 30))) := below_alloc _ _
  have BS : Hid (Calls Try.prog 31 #[.slice a n c, .agg (idL g).toArray, .func (.func 32) #[] #[]] (w.alloc (.cells (idL g).toArray 30)) fun e w' => (∃ i : Nat, e = .returned (.tuple #[.int .i64 i, .bool (has (num F) n (val g 20))])) ∧ Below w.heap.size w w') :=
    (bsearch_calls a n c F g _ hn (ho.below (below_alloc _ _)) hF hg hs).mono fun e w' h => ⟨h.1, bthen B1.out h.2⟩
  clear ho hs hF hg
  generalize has (num F) n (val g 20) = res at *
  go_enter Try.func26, Try.ntmps26
  go_wp2_with (refine wpList_load_mid rfl 30 _ rfl w.heap.size 0 rfl (idL g) _ L2.out Try.underlying30 rfl (szL30 g) ?_)
  refine BS.out.mono ?_
  rintro e w' ⟨⟨i, rfl⟩, hb⟩
  have HB : Hid (Below w.heap.size w w') := hb
  clear hb BS L2 B1
  go_wp2_with fail
  go_ret
  exact ⟨rfl, HB.out⟩

set_option maxHeartbeats 1000000 in
theorem ZZholds_calls (a : Option Addr) (n c : Nat) (F : Nat → Nat → Nat) (g : Nat → Nat) (w : World) (hn : n ≤ 65536) (ho : Objs w a n F) (hF : ∀ i j, F i j < 256) (hg : ∀ j, g j < 256) (hs : Sorted (num F) n) :
    Calls Try.prog 12 #[.slice a n c, .agg (idL g).toArray] w fun e w' => e = .returned (.bool (has (num F) n (val g 20))) ∧ Below w.heap.size w w' := by
  have L2 : Hid ((w.alloc (.cells (idL g).toArray 30)).rangeAt w.heap.size 0 (idL g)) := (At.new w g 30).range
  have B1 : Hid (Below w.heap.size w (w.alloc (.cells (idL g).toArray 30))) := below_alloc _ _
  have BS : Hid (Calls Try.prog 26 #[.slice a n c, .agg (idL g).toArray] (w.alloc (.cells (idL g).toArray 30)) fun e w' => e = .returned (.bool (has (num F) n (val g 20))) ∧ Below w.heap.size w w') :=
    (holds_calls a n c F g _ hn (ho.below (below_alloc _ _)) hF hg hs).mono fun e w' h => ⟨h.1, bthen B1.out h.2⟩
  clear ho hs hF hg
  generalize has (num F) n (val g 20) = res at *
  go_enter Try.func12, Try.ntmps12
  go_wp2_with (refine wpList_load_mid rfl 30 _ rfl w.heap.size 0 rfl (idL g) _ L2.out Try.underlying30 rfl (szL30 g) ?_)
  refine BS.out.mono ?_
  rintro e w' ⟨rfl, hb⟩
  have HB : Hid (Below w.heap.size w w') := hb
  clear hb BS L2 B1
  go_wp2_with fail
  go_ret
  exact ⟨rfl, HB.out⟩

/-- Ids in a row. -/
def Ids (w : World) (a : Option Addr) (n : Nat) (F : Nat → Nat → Nat) : Prop := 0 < n → ∃ b o, a = some ⟨b, o, none⟩ ∧ ∀ i, i < n → At w b (o + i * 20) (F i)

theorem Ids.below {w w' : World} {a : Option Addr} {n : Nat} {F : Nat → Nat → Nat} (h : Ids w a n F) (k : Below w.heap.size w w') : Ids w' a n F := fun hn => by
  obtain ⟨b, o, rfl, hc⟩ := h hn
  exact ⟨b, o, rfl, fun i hi => (hc i hi).below k⟩

set_option maxHeartbeats 1000000 in
theorem idsMember_calls (a : Option Addr) (n c : Nat) (F : Nat → Nat → Nat) (g : Nat → Nat) (w : World) (hn : n ≤ 65536) (ho : Ids w a n F) (hF : ∀ i j, F i j < 256) (hg : ∀ j, g j < 256) :
    Calls Try.prog 13 #[.slice a n c, .agg (idL g).toArray] w fun e w' => e = .returned (.bool (has (num F) n (val g 20))) ∧ Below w.heap.size w w' := by
  have L2 : Hid ((w.alloc (.cells (idL g).toArray 25)).rangeAt w.heap.size 0 (idL g)) := (At.new w g 25).range
  have B1 : Hid (Below w.heap.size w (w.alloc (.cells (idL g).toArray 25))) := below_alloc _ _
  have HO : Hid (Ids (w.alloc (.cells (idL g).toArray 25)) a n F) := ho.below (below_alloc _ _)
  have HF : Hid (∀ i j, F i j < 256) := hF
  have HGG : Hid (∀ j, g j < 256) := hg
  clear ho hF hg
  go_enter Try.func13, Try.ntmps13
  go_wp2_with fail
  generalize w.alloc (.cells (idL g).toArray 25) = W1 at *
  obtain ⟨B, hBB⟩ : ∃ B, B = w.heap.size := ⟨_, rfl⟩
  rw [← hBB] at L2
  rw [← hBB]
  clear hBB
  go_loopg [5] n (fun gk i wr => ∃ p : Nat, p ≤ n ∧ i = .int .i64 p ∧ Hid (p + gk = n) ∧ Hid (∀ m, m < p → num F m ≠ val g 20) ∧ Hid (Keeps W1 wr))
  case atStart => exact ⟨0, Nat.zero_le _, rfl, by show _ = _; omega, fun _ h => absurd h (Nat.not_lt_zero _), ⟨Below.refl _ _⟩⟩
  case round =>
    obtain ⟨p, hp, rfl, HG, HN, HK⟩ := hrel
    by_cases hlt : p < n
    · obtain ⟨b, o, rfl, hr⟩ := HO.out (by omega)
      have RM : Hid (W1.rangeAt b (o + p * 20) (idL (F p))) := (hr p hlt).range
      have CC : Hid (∀ W, Keeps W1 W → Calls Try.prog 15 #[.agg (idL (F p)).toArray, .agg (idL g).toArray] W fun e w' => e = .returned (.int .i64 (cmp3 (val (F p) 20) (val g 20))) ∧ Keeps W1 w') := fun W hW =>
        (idCmp_calls (F p) g (HF.out p) HGG.out W).mono fun e w' h => ⟨h.1, ⟨bthen hW.b h.2⟩⟩
      have HZ : Hid ((cmp3 (val (F p) 20) (val g 20) == 0) = decide (num F p = val g 20)) := cmp3_zero _ _
      clear hr
      go_wp2_with fail
      generalize cmp3 (val (F p) 20) (val g 20) = r at *
      refine wp_region_held_drew (S := fun w' => Keeps W1 w') (by kernel_rfl) ⟨HK.out.b.drew⟩ (fun hHeld => ?_)
      refine wpAnyH_take (i := 0) (v := .slice (some ⟨b, o, none⟩) n c) rfl (by kernel_rfl) (by kernel_rfl) (by kernel_rfl) (fun _ _ _ h => h) (Or.inl ⟨by kernel_rfl, fun w hSw => by go_simp⟩) (by assumption) ?_
      change wpAnyH _ _ _ _ _ _ _ (Act.put _ (some 12) _) _
      try simp only [Act.put, List.setIfInBounds_toArray, List.set_cons_zero, List.set_cons_succ]
      refine wpAnyH_take (i := 1) (v := .int .i64 p) rfl (by kernel_rfl) (by kernel_rfl) (by kernel_rfl) (fun _ _ _ h => h) (Or.inl ⟨by kernel_rfl, fun w hSw => by go_simp⟩) (by assumption) ?_
      change wpAnyH _ _ _ _ _ _ _ (Act.put _ (some 13) _) _
      try simp only [Act.put, List.setIfInBounds_toArray, List.set_cons_zero, List.set_cons_succ]
      refine wpAnyH_take (i := 2) (v := .pointer (some ⟨b, o + p * 20, none⟩)) rfl (by kernel_rfl) (by kernel_rfl) (by kernel_rfl) (fun _ _ _ h => h) (Or.inl ⟨by kernel_rfl, fun w hSw => by go_simp⟩) (by assumption) ?_
      change wpAnyH _ _ _ _ _ _ _ (Act.put _ (some 14) _) _
      try simp only [Act.put, List.setIfInBounds_toArray, List.set_cons_zero, List.set_cons_succ]
      refine wpAnyH_take (i := 3) (v := .agg (idL (F p)).toArray) rfl (by kernel_rfl) (by kernel_rfl) (by kernel_rfl) (fun _ _ _ h => h) ?hy3 (by assumption) ?_
      case hy3 =>
        refine yieldsIf_load_mid ?hw3 25 _ rfl b (o + p * 20) ?hx3 (idL (F p)) _ (fun w hw => rangeAt_below RM.out hw.b) Try.underlying25 rfl (szL25 (F p))
        case hw3 => kernel_rfl
        case hx3 => kernel_rfl
      change wpAnyH _ _ _ _ _ _ _ (Act.put _ (some 15) _) _
      try simp only [Act.put, List.setIfInBounds_toArray, List.set_cons_zero, List.set_cons_succ]
      refine wpAnyH_take (i := 4) (v := .agg (idL g).toArray) rfl (by kernel_rfl) (by kernel_rfl) (by kernel_rfl) (fun _ _ _ h => h) ?hy4 (by assumption) ?_
      case hy4 =>
        refine yieldsIf_load_mid ?hw4 25 _ rfl B (0) ?hx4 (idL g) _ (fun w hw => rangeAt_below L2.out hw.b) Try.underlying25 rfl (szL25 g)
        case hw4 => kernel_rfl
        case hx4 => kernel_rfl
      change wpAnyH _ _ _ _ _ _ _ (Act.put _ (some 16) _) _
      try simp only [Act.put, List.setIfInBounds_toArray, List.set_cons_zero, List.set_cons_succ]
      refine wpAnyH_ready (rs := [5]) (by kernel_rfl) (by simp) ?_
      refine AllReadyH.cons (o := _) rfl (fun K hK => ?_) AllReadyH.nil
      rw [if_pos (by kernel_rfl)]
      go_simp
      refine (CC.out _ (by assumption)).mono ?_
      rintro e w7 ⟨rfl, h7⟩
      refine hK.out _ _ h7 (fun hHeld2 => ?_)
      clear hK K
      try simp only [Act.put, List.setIfInBounds_toArray, List.set_cons_zero, List.set_cons_succ]
      refine wpAnyH_take (i := 6) (v := .bool (r == 0)) rfl (by kernel_rfl) (by kernel_rfl) (by kernel_rfl) (fun _ _ _ h => h) (Or.inl ⟨by kernel_rfl, fun w hSw => by go_simp⟩) (by assumption) ?_
      change wpAnyH _ _ _ _ _ _ _ (Act.put _ (some 18) _) _
      try simp only [Act.put, List.setIfInBounds_toArray, List.set_cons_zero, List.set_cons_succ]
      refine wpAnyH_done (by kernel_rfl) ?_ _
      have HK7 : Hid (Keeps W1 w7) := h7
      clear h7 CC hHeld hHeld2
      by_cases hr0 : num F p = val g 20
      · have s1 : (r == 0) = true := by rw [HZ.out]; exact decide_eq_true hr0
        have RES : Hid (has (num F) n (val g 20) = true) := (has_iff _ _ _).2 ⟨p, hlt, hr0⟩
        clear hr0
        go_wp2_with fail
        go_ret
        exact ⟨ret_bool RES.out.symm, bthen B1.out HK7.out.b⟩
      · have s1 : (r == 0) = false := by rw [HZ.out]; exact decide_eq_false hr0
        have NN : Hid (∀ m, m < p + 1 → num F m ≠ val g 20) := fun m hm => by
          by_cases e : m = p
          · rw [e]; exact hr0
          · exact HN.out m (by omega)
        clear hr0
        go_wp2_with fail
        go_roundg (n - (p + 1))
        case measure => have := HG.out; omega
        case rel => exact ⟨p + 1, by omega, by go_num, by show _ = _; omega, NN, HK7⟩
    · obtain rfl : p = n := by omega
      have RES : Hid (has (num F) p (val g 20) = false) := by
        show _ = _
        rw [Bool.eq_false_iff]
        intro h
        obtain ⟨k, hk, hk2⟩ := (has_iff _ _ _).1 h
        exact HN.out k hk hk2
      go_wp2_with fail
      go_ret
      exact ⟨ret_bool RES.out.symm, bthen B1.out HK.out.b⟩

theorem sorted_of_steps {X : Nat → Nat} {n : Nat} (h : ∀ i, i + 1 < n → X i ≤ X (i + 1)) : Sorted X n := by
  intro i j hij hj
  induction j with
  | zero => obtain rfl : i = 0 := by omega
            exact Nat.le_refl _
  | succ j ih =>
    by_cases e : i = j + 1
    · rw [e]; exact Nat.le_refl _
    · exact Nat.le_trans (ih (by omega) (by omega)) (h j hj)

set_option maxHeartbeats 1000000 in
/-- It says true, and then they are sorted; or it says false. -/
theorem idsSorted_calls (a : Option Addr) (n c : Nat) (F : Nat → Nat → Nat) (w : World) (hn : n ≤ 65536) (ho : Ids w a n F) (hF : ∀ i j, F i j < 256) :
    Calls Try.prog 10 #[.slice a n c] w fun e w' => ((e = .returned (.bool true) ∧ Sorted (num F) n) ∨ e = .returned (.bool false)) ∧ Below w.heap.size w w' := by
  have HO : Hid (Ids w a n F) := ho
  have HF : Hid (∀ i j, F i j < 256) := hF
  clear ho hF
  obtain ⟨W1, hW1⟩ : ∃ W1, W1 = w := ⟨_, rfl⟩
  go_enter Try.func10, Try.ntmps10
  go_wp2_with fail
  go_loopg [3] n (fun gk i wr => ∃ p : Nat, 1 ≤ p ∧ p ≤ n + 1 ∧ (p ≤ n ∨ n = 0) ∧ i = .int .i64 p ∧ Hid (p + gk = n + 1) ∧ Hid (∀ m, m + 1 < p → num F m ≤ num F (m + 1)) ∧ Hid (Keeps W1 wr))
  case atStart => exact ⟨1, Nat.le_refl _, by omega, by omega, rfl, by show _ = _; omega, fun _ h => absurd h (by omega), by rw [hW1]; exact ⟨Below.refl _ _⟩⟩
  case round =>
    obtain ⟨p, hp1, hp, hpn, rfl, HG, HN, HK⟩ := hrel
    subst hW1
    by_cases hlt : p < n
    · obtain ⟨b, o, rfl, hr⟩ := HO.out (by omega)
      obtain ⟨m, hm⟩ : ∃ m, m = p - 1 := ⟨_, rfl⟩
      have hmn : m < n := by omega
      have HMP : Hid (IntKind.i64.wrap ((p : Int) - 1) = (m : Int)) := by show _ = _; rw [IntKind.wrap_i64]; omega
      have RM : Hid (W1.rangeAt b (o + m * 20) (idL (F m))) := (hr m hmn).range
      have RP : Hid (W1.rangeAt b (o + p * 20) (idL (F p))) := (hr p hlt).range
      have CC : Hid (∀ W, Keeps W1 W → Calls Try.prog 15 #[.agg (idL (F m)).toArray, .agg (idL (F p)).toArray] W fun e w' => e = .returned (.int .i64 (cmp3 (val (F m) 20) (val (F p) 20))) ∧ Keeps W1 w') := fun W hW =>
        (idCmp_calls (F m) (F p) (HF.out m) (HF.out p) W).mono fun e w' h => ⟨h.1, ⟨bthen hW.b h.2⟩⟩
      have HZ : Hid (decide (cmp3 (val (F m) 20) (val (F p) 20) > 0) = decide (num F p < num F m)) := cmp3_pos _ _
      have NX : Hid (¬ num F p < num F m → ∀ k, k + 1 < p + 1 → num F k ≤ num F (k + 1)) := fun h k hk => by
        by_cases e : k = m
        · rw [e, show m + 1 = p by omega]; omega
        · exact HN.out k (by omega)
      clear hr hm
      go_wp2_with fail
      generalize cmp3 (val (F m) 20) (val (F p) 20) = r at *
      have hmp := HMP.out
      refine wp_region_held_drew (S := fun w' => Keeps W1 w') (by kernel_rfl) ⟨HK.out.b.drew⟩ (fun hHeld => ?_)
      refine wpAnyH_take (i := 0) (v := .slice (some ⟨b, o, none⟩) n c) rfl (by kernel_rfl) (by kernel_rfl) (by kernel_rfl) (fun _ _ _ h => h) (Or.inl ⟨by kernel_rfl, fun w hSw => by go_simp⟩) (by assumption) ?_
      change wpAnyH _ _ _ _ _ _ _ (Act.put _ (some 10) _) _
      try simp only [Act.put, List.setIfInBounds_toArray, List.set_cons_zero, List.set_cons_succ]
      refine wpAnyH_take (i := 1) (v := .int .i64 p) rfl (by kernel_rfl) (by kernel_rfl) (by kernel_rfl) (fun _ _ _ h => h) (Or.inl ⟨by kernel_rfl, fun w hSw => by go_simp⟩) (by assumption) ?_
      change wpAnyH _ _ _ _ _ _ _ (Act.put _ (some 11) _) _
      try simp only [Act.put, List.setIfInBounds_toArray, List.set_cons_zero, List.set_cons_succ]
      refine wpAnyH_take (i := 2) (v := .int .i64 m) rfl (by kernel_rfl) (by kernel_rfl) (by kernel_rfl) (fun _ _ _ h => h) (Or.inl ⟨by kernel_rfl, fun w hSw => by go_simp⟩) (by assumption) ?_
      change wpAnyH _ _ _ _ _ _ _ (Act.put _ (some 12) _) _
      try simp only [Act.put, List.setIfInBounds_toArray, List.set_cons_zero, List.set_cons_succ]
      refine wpAnyH_take (i := 3) (v := .pointer (some ⟨b, o + m * 20, none⟩)) rfl (by kernel_rfl) (by kernel_rfl) (by kernel_rfl) (fun _ _ _ h => h) (Or.inl ⟨by kernel_rfl, fun w hSw => by go_simp⟩) (by assumption) ?_
      change wpAnyH _ _ _ _ _ _ _ (Act.put _ (some 13) _) _
      try simp only [Act.put, List.setIfInBounds_toArray, List.set_cons_zero, List.set_cons_succ]
      refine wpAnyH_take (i := 4) (v := .agg (idL (F m)).toArray) rfl (by kernel_rfl) (by kernel_rfl) (by kernel_rfl) (fun _ _ _ h => h) ?hy4 (by assumption) ?_
      case hy4 =>
        refine yieldsIf_load_mid ?hw4 25 _ rfl b (o + m * 20) ?hx4 (idL (F m)) _ (fun w hw => rangeAt_below RM.out hw.b) Try.underlying25 rfl (szL25 (F m))
        case hw4 => kernel_rfl
        case hx4 => kernel_rfl
      change wpAnyH _ _ _ _ _ _ _ (Act.put _ (some 14) _) _
      try simp only [Act.put, List.setIfInBounds_toArray, List.set_cons_zero, List.set_cons_succ]
      refine wpAnyH_take (i := 5) (v := .slice (some ⟨b, o, none⟩) n c) rfl (by kernel_rfl) (by kernel_rfl) (by kernel_rfl) (fun _ _ _ h => h) (Or.inl ⟨by kernel_rfl, fun w hSw => by go_simp⟩) (by assumption) ?_
      change wpAnyH _ _ _ _ _ _ _ (Act.put _ (some 15) _) _
      try simp only [Act.put, List.setIfInBounds_toArray, List.set_cons_zero, List.set_cons_succ]
      refine wpAnyH_take (i := 6) (v := .int .i64 p) rfl (by kernel_rfl) (by kernel_rfl) (by kernel_rfl) (fun _ _ _ h => h) (Or.inl ⟨by kernel_rfl, fun w hSw => by go_simp⟩) (by assumption) ?_
      change wpAnyH _ _ _ _ _ _ _ (Act.put _ (some 16) _) _
      try simp only [Act.put, List.setIfInBounds_toArray, List.set_cons_zero, List.set_cons_succ]
      refine wpAnyH_take (i := 7) (v := .pointer (some ⟨b, o + p * 20, none⟩)) rfl (by kernel_rfl) (by kernel_rfl) (by kernel_rfl) (fun _ _ _ h => h) (Or.inl ⟨by kernel_rfl, fun w hSw => by go_simp⟩) (by assumption) ?_
      change wpAnyH _ _ _ _ _ _ _ (Act.put _ (some 17) _) _
      try simp only [Act.put, List.setIfInBounds_toArray, List.set_cons_zero, List.set_cons_succ]
      refine wpAnyH_take (i := 8) (v := .agg (idL (F p)).toArray) rfl (by kernel_rfl) (by kernel_rfl) (by kernel_rfl) (fun _ _ _ h => h) ?hy8 (by assumption) ?_
      case hy8 =>
        refine yieldsIf_load_mid ?hw8 25 _ rfl b (o + p * 20) ?hx8 (idL (F p)) _ (fun w hw => rangeAt_below RP.out hw.b) Try.underlying25 rfl (szL25 (F p))
        case hw8 => kernel_rfl
        case hx8 => kernel_rfl
      change wpAnyH _ _ _ _ _ _ _ (Act.put _ (some 18) _) _
      try simp only [Act.put, List.setIfInBounds_toArray, List.set_cons_zero, List.set_cons_succ]
      refine wpAnyH_ready (rs := [9]) (by kernel_rfl) (by simp) ?_
      refine AllReadyH.cons (o := _) rfl (fun K hK => ?_) AllReadyH.nil
      rw [if_pos (by kernel_rfl)]
      go_simp
      refine (CC.out _ (by assumption)).mono ?_
      rintro e w7 ⟨rfl, h7⟩
      refine hK.out _ _ h7 (fun hHeld2 => ?_)
      clear hK K
      try simp only [Act.put, List.setIfInBounds_toArray, List.set_cons_zero, List.set_cons_succ]
      refine wpAnyH_take (i := 10) (v := .bool (decide (r > 0))) rfl (by kernel_rfl) (by kernel_rfl) (by kernel_rfl) (fun _ _ _ h => h) (Or.inl ⟨by kernel_rfl, fun w hSw => by go_simp⟩) (by assumption) ?_
      change wpAnyH _ _ _ _ _ _ _ (Act.put _ (some 20) _) _
      try simp only [Act.put, List.setIfInBounds_toArray, List.set_cons_zero, List.set_cons_succ]
      refine wpAnyH_done (by kernel_rfl) ?_ _
      have HK7 : Hid (Keeps W1 w7) := h7
      clear h7 CC hHeld hHeld2 hmp
      by_cases hr0 : num F p < num F m
      · have s0 : decide (r > 0) = true := by rw [HZ.out]; exact decide_eq_true hr0
        have s1 : 0 < r := of_decide_eq_true s0
        clear hr0 s0
        go_wp2_with fail
        go_ret
        exact ⟨.inr rfl, HK7.out.b⟩
      · have s0 : decide (r > 0) = false := by rw [HZ.out]; exact decide_eq_false hr0
        have s1 : ¬ 0 < r := of_decide_eq_false s0
        clear s0
        have NN := NX.out hr0
        have NNH : Hid (∀ k, k + 1 < p + 1 → num F k ≤ num F (k + 1)) := NN
        clear hr0 NN
        go_wp2_with fail
        go_roundg (n + 1 - (p + 1))
        case measure => have := HG.out; omega
        case rel => exact ⟨p + 1, by omega, by omega, by omega, by go_num, by show _ = _; omega, NNH, HK7⟩
    · have RES : Hid (Sorted (num F) n) := sorted_of_steps fun i hi => HN.out i (by omega)
      go_wp2_with fail
      go_ret
      exact ⟨.inl ⟨rfl, RES.out⟩, HK.out.b⟩

end Go.Proofs.Qxb6614450a.W
