import Derived.Test.Qxb6614450aGlobEnt
namespace Go.Proofs.Qxb6614450a.W
open Go.RowKit
set_option linter.unusedSimpArgs false

theorem Puts.leaves {W w : World} {sb rb n o k : Nat} {L : List Nat} {t : Nat → Nat} (h : Puts W w sb rb n L k t o) (v : Value) : W.grownBy (w.setCell ⟨sb, 0, none⟩ v) (some rb) ∧ Part (w.setCell ⟨sb, 0, none⟩ v) rb n L k t := by
  have ho := h.old
  have hw := h.new
  have hne : rb ≠ sb := by omega
  have e := fun i (hi : i ≠ sb) => Below.heap_setCell w ⟨sb, 0, none⟩ v i hi
  exact ⟨⟨h.gr.os, h.gr.tape, h.gr.output, by simp; exact h.gr.size, fun i hi hr => (e i (by omega)).trans (h.gr.block i hi hr)⟩, h.pt.same (e rb hne)⟩

set_option maxHeartbeats 8000000 in
set_option maxRecDepth 100000 in
theorem putID_calls {W w : World} {sb rb n : Nat} {L : List Nat} {t : Nat → Nat} (f : Nat → Nat) (h : Puts W w sb rb n L 0 t L.length) (hn : L.length + 20 ≤ n) :
    Calls Try.prog 40 #[.pointer (some ⟨sb, 0, none⟩), .agg (idL f).toArray] w fun e w' => e = .returned (.tuple #[]) ∧ W.grownBy w' (some rb) ∧ Part w' rb n (L ++ idB f) 0 t := by
  have P1 : Hid (Puts W (w.alloc (.cells (idL f).toArray 30)).drew sb rb n L 0 t L.length) := (h.alloc _).drew
  have P2 : Hid (Puts W ((w.alloc (.cells (idL f).toArray 30)).drew.setCells rb L.length (bytesV (idB f))) sb rb n (L ++ idB f) 0 t L.length) := Puts.put (P1.out.opens (by rw [idB_len]; exact hn))
  have FN : Hid (∀ v, W.grownBy (((w.alloc (.cells (idL f).toArray 30)).drew.setCells rb L.length (bytesV (idB f))).setCell ⟨sb, 0, none⟩ v) (some rb) ∧ Part (((w.alloc (.cells (idL f).toArray 30)).drew.setCells rb L.length (bytesV (idB f))).setCell ⟨sb, 0, none⟩ v) rb n (L ++ idB f) 0 t) := fun v => P2.out.leaves v
  have bx1 := P1.out.box
  have bx2 := P2.out.box
  have bf2 := P2.out.free
  have RC : Hid ((Builtin.copy_ #[77, 38] 3 #[.slice (some ⟨rb, L.length, none⟩) (n - L.length) (n - L.length), .slice (some ⟨w.heap.size, 0, none⟩) 20 20]).run Try.prog (w.alloc (.cells (idL f).toArray 30)).drew = .ok (.int .i64 20) ((w.alloc (.cells (idL f).toArray 30)).drew.setCells rb L.length (bytesV (idB f)))) :=
    run_copy_id 77 38 3 Try.underlying77 _ rb L.length _ _ w.heap.size 0 f (by omega) (by have := (At.new w f 30).range; exact this) (there_mid P1.out.pt.there (by omega))
  obtain ⟨q, hqe⟩ : ∃ q, q = n - L.length := ⟨_, rfl⟩
  have hq : 20 ≤ q := by omega
  have hqi : (20 : Int) ≤ (q : Int) := by omega
  have hqj : ¬ ((q : Int) < 20) := by omega
  rw [← hqe] at bx1 bx2 RC
  clear hqe
  clear P1 P2 h
  go_enter Try.func40, Try.ntmps40
  go_wp2_with fail
  generalize w.alloc (.cells (idL f).toArray 30) = W1 at *
  obtain ⟨ib, hib⟩ : ∃ ib, ib = w.heap.size := ⟨_, rfl⟩
  rw [← hib] at RC
  rw [← hib]
  clear hib
  by_cases hq20 : q = 20
  · subst hq20
    clear hqi hqj
    refine wp_region_held_drew (S := fun _ => True) (by kernel_rfl) trivial (fun hHeld => ?_)
    generalize W1.drew = w1 at *
    refine wpAnyH_take (i := 0) (v := .pointer (some ⟨sb, 0, none⟩)) rfl (by kernel_rfl) (by kernel_rfl) (by kernel_rfl) (fun _ _ _ h => h) (Or.inl ⟨by kernel_rfl, fun w hSw => by go_simp⟩) trivial ?_
    change wpAnyH _ _ _ _ _ _ _ (Act.put _ (some 4) _) _
    try simp only [Act.put, List.setIfInBounds_toArray, List.set_cons_zero, List.set_cons_succ]
    refine wpAnyH_take (i := 1) (v := .pointer (some ⟨sb, 0, none⟩)) rfl (by kernel_rfl) (by kernel_rfl) (by kernel_rfl) (fun _ _ _ h => h) (Or.inl ⟨by kernel_rfl, fun w hSw => by go_simp⟩) trivial ?_
    change wpAnyH _ _ _ _ _ _ _ (Act.put _ (some 5) _) _
    try simp only [Act.put, List.setIfInBounds_toArray, List.set_cons_zero, List.set_cons_succ]
    refine wpAnyH_take (i := 2) (v := .pointer (some ⟨sb, 0, none⟩)) rfl (by kernel_rfl) (by kernel_rfl) (by kernel_rfl) (fun _ _ _ h => h) (Or.inl ⟨by kernel_rfl, fun w hSw => by go_simp⟩) trivial ?_
    change wpAnyH _ _ _ _ _ _ _ (Act.put _ (some 6) _) _
    try simp only [Act.put, List.setIfInBounds_toArray, List.set_cons_zero, List.set_cons_succ]
    refine wpAnyH_take (i := 4) (v := .pointer (some ⟨sb, 0, none⟩)) rfl (by kernel_rfl) (by kernel_rfl) (by kernel_rfl) (fun _ _ _ h => h) (Or.inl ⟨by kernel_rfl, fun w hSw => by go_simp⟩) trivial ?_
    change wpAnyH _ _ _ _ _ _ _ (Act.put _ (some 8) _) _
    try simp only [Act.put, List.setIfInBounds_toArray, List.set_cons_zero, List.set_cons_succ]
    refine wpAnyH_take (i := 5) (v := .pointer (some ⟨sb, 0, none⟩)) rfl (by kernel_rfl) (by kernel_rfl) (by kernel_rfl) (fun _ _ _ h => h) (Or.inl ⟨by kernel_rfl, fun w hSw => by go_simp⟩) trivial ?_
    change wpAnyH _ _ _ _ _ _ _ (Act.put _ (some 9) _) _
    try simp only [Act.put, List.setIfInBounds_toArray, List.set_cons_zero, List.set_cons_succ]
    refine wpAnyH_take (i := 7) (v := .slice (some ⟨ib, 0, none⟩) 20 20) rfl (by kernel_rfl) (by kernel_rfl) (by kernel_rfl) (fun _ _ _ h => h) (Or.inl ⟨by kernel_rfl, fun w hSw => by go_simp⟩) trivial ?_
    change wpAnyH _ _ _ _ _ _ _ (Act.put _ (some 11) _) _
    try simp only [Act.put, List.setIfInBounds_toArray, List.set_cons_zero, List.set_cons_succ]
    refine wpAnyH_ready (rs := [3, 6]) (by kernel_rfl) (by simp) ?_
    refine (AllReadyH.cons (o := _) rfl (fun K hK => ?_) (AllReadyH.cons (o := _) rfl (fun K hK => ?_) AllReadyH.nil))
    · skip
      rw [if_pos (by kernel_rfl)]
      go_simp
      refine hK.out _ _ trivial (fun _ => ?_)
      clear hK K
      try simp only [Act.put, List.setIfInBounds_toArray, List.set_cons_zero, List.set_cons_succ]
      refine wpAnyH_ready (rs := [6]) (by kernel_rfl) (by simp) ?_
      refine (AllReadyH.cons (o := _) rfl (fun K hK => ?_) AllReadyH.nil)
      rw [if_pos (by kernel_rfl)]
      go_simp
      refine hK.out _ _ trivial (fun _ => ?_)
      clear hK K
      try simp only [Act.put, List.setIfInBounds_toArray, List.set_cons_zero, List.set_cons_succ]
      refine wpAnyH_ready (rs := [8]) (by kernel_rfl) (by simp) ?_
      refine (AllReadyH.cons (o := _) rfl (fun K hK => ?_) AllReadyH.nil)
      rw [if_pos (by kernel_rfl)]
      refine wp_copy_eq (.tmp 10) (.tmp 11) 77 38 ?_ (.slice (some ⟨rb, L.length, none⟩) 20 20) (.slice (some ⟨ib, 0, none⟩) 20 20) ?_ ?_ RC.out ?_
      · rfl
      · kernel_rfl
      · kernel_rfl
      refine hK.out _ _ trivial (fun _ => ?_)
      clear hK K
      generalize w1.setCells rb L.length (bytesV (idB f)) = w2 at *
      change wpAnyH _ _ _ _ _ _ _ (Act.put _ (some 12) _) _
      try simp only [Act.put, List.setIfInBounds_toArray, List.set_cons_zero, List.set_cons_succ]
      refine wpAnyH_take (i := 9) (v := .slice (some ⟨rb, L.length, none⟩) 0 0) rfl (by kernel_rfl) (by kernel_rfl) (by kernel_rfl) (fun _ _ _ h => h) (Or.inl ⟨by kernel_rfl, fun w hSw => by go_simp⟩) trivial ?_
      change wpAnyH _ _ _ _ _ _ _ (Act.put _ (some 13) _) _
      try simp only [Act.put, List.setIfInBounds_toArray, List.set_cons_zero, List.set_cons_succ]
      refine wpAnyH_take (i := 10) (v := .pointer (some ⟨sb, 0, none⟩)) rfl (by kernel_rfl) (by kernel_rfl) (by kernel_rfl) (fun _ _ _ h => h) (Or.inl ⟨by kernel_rfl, fun w hSw => by go_simp⟩) trivial ?_
      change wpAnyH _ _ _ _ _ _ _ (Act.put _ (some 14) _) _
      try simp only [Act.put, List.setIfInBounds_toArray, List.set_cons_zero, List.set_cons_succ]
      refine wpAnyH_ready (rs := [11]) (by kernel_rfl) (by simp) ?_
      refine (AllReadyH.cons (o := _) rfl (fun K hK => ?_) AllReadyH.nil)
      rw [if_pos (by kernel_rfl)]
      go_simp
      refine hK.out _ _ trivial (fun _ => ?_)
      clear hK K
      try simp only [Act.put, List.setIfInBounds_toArray, List.set_cons_zero, List.set_cons_succ]
      refine wpAnyH_done (by kernel_rfl) ?_ _
      go_wp2_with fail
      go_end0
      exact ⟨rfl, FN.out _⟩
    · skip
      rw [if_pos (by kernel_rfl)]
      go_simp
      refine hK.out _ _ trivial (fun _ => ?_)
      clear hK K
      try simp only [Act.put, List.setIfInBounds_toArray, List.set_cons_zero, List.set_cons_succ]
      refine wpAnyH_ready (rs := [3, 8]) (by kernel_rfl) (by simp) ?_
      refine (AllReadyH.cons (o := _) rfl (fun K hK => ?_) (AllReadyH.cons (o := _) rfl (fun K hK => ?_) AllReadyH.nil))
      · skip
        rw [if_pos (by kernel_rfl)]
        go_simp
        refine hK.out _ _ trivial (fun _ => ?_)
        clear hK K
        try simp only [Act.put, List.setIfInBounds_toArray, List.set_cons_zero, List.set_cons_succ]
        refine wpAnyH_ready (rs := [8]) (by kernel_rfl) (by simp) ?_
        refine (AllReadyH.cons (o := _) rfl (fun K hK => ?_) AllReadyH.nil)
        rw [if_pos (by kernel_rfl)]
        refine wp_copy_eq (.tmp 10) (.tmp 11) 77 38 ?_ (.slice (some ⟨rb, L.length, none⟩) 20 20) (.slice (some ⟨ib, 0, none⟩) 20 20) ?_ ?_ RC.out ?_
        · rfl
        · kernel_rfl
        · kernel_rfl
        refine hK.out _ _ trivial (fun _ => ?_)
        clear hK K
        generalize w1.setCells rb L.length (bytesV (idB f)) = w2 at *
        change wpAnyH _ _ _ _ _ _ _ (Act.put _ (some 12) _) _
        try simp only [Act.put, List.setIfInBounds_toArray, List.set_cons_zero, List.set_cons_succ]
        refine wpAnyH_take (i := 9) (v := .slice (some ⟨rb, L.length, none⟩) 0 0) rfl (by kernel_rfl) (by kernel_rfl) (by kernel_rfl) (fun _ _ _ h => h) (Or.inl ⟨by kernel_rfl, fun w hSw => by go_simp⟩) trivial ?_
        change wpAnyH _ _ _ _ _ _ _ (Act.put _ (some 13) _) _
        try simp only [Act.put, List.setIfInBounds_toArray, List.set_cons_zero, List.set_cons_succ]
        refine wpAnyH_take (i := 10) (v := .pointer (some ⟨sb, 0, none⟩)) rfl (by kernel_rfl) (by kernel_rfl) (by kernel_rfl) (fun _ _ _ h => h) (Or.inl ⟨by kernel_rfl, fun w hSw => by go_simp⟩) trivial ?_
        change wpAnyH _ _ _ _ _ _ _ (Act.put _ (some 14) _) _
        try simp only [Act.put, List.setIfInBounds_toArray, List.set_cons_zero, List.set_cons_succ]
        refine wpAnyH_ready (rs := [11]) (by kernel_rfl) (by simp) ?_
        refine (AllReadyH.cons (o := _) rfl (fun K hK => ?_) AllReadyH.nil)
        rw [if_pos (by kernel_rfl)]
        go_simp
        refine hK.out _ _ trivial (fun _ => ?_)
        clear hK K
        try simp only [Act.put, List.setIfInBounds_toArray, List.set_cons_zero, List.set_cons_succ]
        refine wpAnyH_done (by kernel_rfl) ?_ _
        go_wp2_with fail
        go_end0
        exact ⟨rfl, FN.out _⟩
      · skip
        rw [if_pos (by kernel_rfl)]
        refine wp_copy_eq (.tmp 10) (.tmp 11) 77 38 ?_ (.slice (some ⟨rb, L.length, none⟩) 20 20) (.slice (some ⟨ib, 0, none⟩) 20 20) ?_ ?_ RC.out ?_
        · rfl
        · kernel_rfl
        · kernel_rfl
        refine hK.out _ _ trivial (fun _ => ?_)
        clear hK K
        generalize w1.setCells rb L.length (bytesV (idB f)) = w2 at *
        change wpAnyH _ _ _ _ _ _ _ (Act.put _ (some 12) _) _
        try simp only [Act.put, List.setIfInBounds_toArray, List.set_cons_zero, List.set_cons_succ]
        refine wpAnyH_ready (rs := [3]) (by kernel_rfl) (by simp) ?_
        refine (AllReadyH.cons (o := _) rfl (fun K hK => ?_) AllReadyH.nil)
        rw [if_pos (by kernel_rfl)]
        go_simp
        refine hK.out _ _ trivial (fun _ => ?_)
        clear hK K
        try simp only [Act.put, List.setIfInBounds_toArray, List.set_cons_zero, List.set_cons_succ]
        refine wpAnyH_take (i := 9) (v := .slice (some ⟨rb, L.length, none⟩) 0 0) rfl (by kernel_rfl) (by kernel_rfl) (by kernel_rfl) (fun _ _ _ h => h) (Or.inl ⟨by kernel_rfl, fun w hSw => by go_simp⟩) trivial ?_
        change wpAnyH _ _ _ _ _ _ _ (Act.put _ (some 13) _) _
        try simp only [Act.put, List.setIfInBounds_toArray, List.set_cons_zero, List.set_cons_succ]
        refine wpAnyH_take (i := 10) (v := .pointer (some ⟨sb, 0, none⟩)) rfl (by kernel_rfl) (by kernel_rfl) (by kernel_rfl) (fun _ _ _ h => h) (Or.inl ⟨by kernel_rfl, fun w hSw => by go_simp⟩) trivial ?_
        change wpAnyH _ _ _ _ _ _ _ (Act.put _ (some 14) _) _
        try simp only [Act.put, List.setIfInBounds_toArray, List.set_cons_zero, List.set_cons_succ]
        refine wpAnyH_ready (rs := [11]) (by kernel_rfl) (by simp) ?_
        refine (AllReadyH.cons (o := _) rfl (fun K hK => ?_) AllReadyH.nil)
        rw [if_pos (by kernel_rfl)]
        go_simp
        refine hK.out _ _ trivial (fun _ => ?_)
        clear hK K
        try simp only [Act.put, List.setIfInBounds_toArray, List.set_cons_zero, List.set_cons_succ]
        refine wpAnyH_done (by kernel_rfl) ?_ _
        go_wp2_with fail
        go_end0
        exact ⟨rfl, FN.out _⟩
  · skip
    refine wp_region_held_drew (S := fun _ => True) (by kernel_rfl) trivial (fun hHeld => ?_)
    generalize W1.drew = w1 at *
    refine wpAnyH_take (i := 0) (v := .pointer (some ⟨sb, 0, none⟩)) rfl (by kernel_rfl) (by kernel_rfl) (by kernel_rfl) (fun _ _ _ h => h) (Or.inl ⟨by kernel_rfl, fun w hSw => by go_simp⟩) trivial ?_
    change wpAnyH _ _ _ _ _ _ _ (Act.put _ (some 4) _) _
    try simp only [Act.put, List.setIfInBounds_toArray, List.set_cons_zero, List.set_cons_succ]
    refine wpAnyH_take (i := 1) (v := .pointer (some ⟨sb, 0, none⟩)) rfl (by kernel_rfl) (by kernel_rfl) (by kernel_rfl) (fun _ _ _ h => h) (Or.inl ⟨by kernel_rfl, fun w hSw => by go_simp⟩) trivial ?_
    change wpAnyH _ _ _ _ _ _ _ (Act.put _ (some 5) _) _
    try simp only [Act.put, List.setIfInBounds_toArray, List.set_cons_zero, List.set_cons_succ]
    refine wpAnyH_take (i := 2) (v := .pointer (some ⟨sb, 0, none⟩)) rfl (by kernel_rfl) (by kernel_rfl) (by kernel_rfl) (fun _ _ _ h => h) (Or.inl ⟨by kernel_rfl, fun w hSw => by go_simp⟩) trivial ?_
    change wpAnyH _ _ _ _ _ _ _ (Act.put _ (some 6) _) _
    try simp only [Act.put, List.setIfInBounds_toArray, List.set_cons_zero, List.set_cons_succ]
    refine wpAnyH_take (i := 4) (v := .pointer (some ⟨sb, 0, none⟩)) rfl (by kernel_rfl) (by kernel_rfl) (by kernel_rfl) (fun _ _ _ h => h) (Or.inl ⟨by kernel_rfl, fun w hSw => by go_simp⟩) trivial ?_
    change wpAnyH _ _ _ _ _ _ _ (Act.put _ (some 8) _) _
    try simp only [Act.put, List.setIfInBounds_toArray, List.set_cons_zero, List.set_cons_succ]
    refine wpAnyH_take (i := 5) (v := .pointer (some ⟨sb, 0, none⟩)) rfl (by kernel_rfl) (by kernel_rfl) (by kernel_rfl) (fun _ _ _ h => h) (Or.inl ⟨by kernel_rfl, fun w hSw => by go_simp⟩) trivial ?_
    change wpAnyH _ _ _ _ _ _ _ (Act.put _ (some 9) _) _
    try simp only [Act.put, List.setIfInBounds_toArray, List.set_cons_zero, List.set_cons_succ]
    refine wpAnyH_take (i := 7) (v := .slice (some ⟨ib, 0, none⟩) 20 20) rfl (by kernel_rfl) (by kernel_rfl) (by kernel_rfl) (fun _ _ _ h => h) (Or.inl ⟨by kernel_rfl, fun w hSw => by go_simp⟩) trivial ?_
    change wpAnyH _ _ _ _ _ _ _ (Act.put _ (some 11) _) _
    try simp only [Act.put, List.setIfInBounds_toArray, List.set_cons_zero, List.set_cons_succ]
    refine wpAnyH_ready (rs := [3, 6]) (by kernel_rfl) (by simp) ?_
    refine (AllReadyH.cons (o := _) rfl (fun K hK => ?_) (AllReadyH.cons (o := _) rfl (fun K hK => ?_) AllReadyH.nil))
    · skip
      rw [if_pos (by kernel_rfl)]
      go_simp
      refine hK.out _ _ trivial (fun _ => ?_)
      clear hK K
      try simp only [Act.put, List.setIfInBounds_toArray, List.set_cons_zero, List.set_cons_succ]
      refine wpAnyH_ready (rs := [6]) (by kernel_rfl) (by simp) ?_
      refine (AllReadyH.cons (o := _) rfl (fun K hK => ?_) AllReadyH.nil)
      rw [if_pos (by kernel_rfl)]
      go_simp
      refine hK.out _ _ trivial (fun _ => ?_)
      clear hK K
      try simp only [Act.put, List.setIfInBounds_toArray, List.set_cons_zero, List.set_cons_succ]
      refine wpAnyH_ready (rs := [8]) (by kernel_rfl) (by simp) ?_
      refine (AllReadyH.cons (o := _) rfl (fun K hK => ?_) AllReadyH.nil)
      rw [if_pos (by kernel_rfl)]
      refine wp_copy_eq (.tmp 10) (.tmp 11) 77 38 ?_ (.slice (some ⟨rb, L.length, none⟩) q q) (.slice (some ⟨ib, 0, none⟩) 20 20) ?_ ?_ RC.out ?_
      · rfl
      · kernel_rfl
      · kernel_rfl
      refine hK.out _ _ trivial (fun _ => ?_)
      clear hK K
      generalize w1.setCells rb L.length (bytesV (idB f)) = w2 at *
      change wpAnyH _ _ _ _ _ _ _ (Act.put _ (some 12) _) _
      try simp only [Act.put, List.setIfInBounds_toArray, List.set_cons_zero, List.set_cons_succ]
      refine wpAnyH_take (i := 9) (v := .slice (some ⟨rb, L.length + 20, none⟩) (q - 20) (q - 20)) rfl (by kernel_rfl) (by kernel_rfl) (by kernel_rfl) (fun _ _ _ h => h) (Or.inl ⟨by kernel_rfl, fun w hSw => by go_simp⟩) trivial ?_
      change wpAnyH _ _ _ _ _ _ _ (Act.put _ (some 13) _) _
      try simp only [Act.put, List.setIfInBounds_toArray, List.set_cons_zero, List.set_cons_succ]
      refine wpAnyH_take (i := 10) (v := .pointer (some ⟨sb, 0, none⟩)) rfl (by kernel_rfl) (by kernel_rfl) (by kernel_rfl) (fun _ _ _ h => h) (Or.inl ⟨by kernel_rfl, fun w hSw => by go_simp⟩) trivial ?_
      change wpAnyH _ _ _ _ _ _ _ (Act.put _ (some 14) _) _
      try simp only [Act.put, List.setIfInBounds_toArray, List.set_cons_zero, List.set_cons_succ]
      refine wpAnyH_ready (rs := [11]) (by kernel_rfl) (by simp) ?_
      refine (AllReadyH.cons (o := _) rfl (fun K hK => ?_) AllReadyH.nil)
      rw [if_pos (by kernel_rfl)]
      go_simp
      refine hK.out _ _ trivial (fun _ => ?_)
      clear hK K
      try simp only [Act.put, List.setIfInBounds_toArray, List.set_cons_zero, List.set_cons_succ]
      refine wpAnyH_done (by kernel_rfl) ?_ _
      go_wp2_with fail
      go_end0
      exact ⟨rfl, FN.out _⟩
    · skip
      rw [if_pos (by kernel_rfl)]
      go_simp
      refine hK.out _ _ trivial (fun _ => ?_)
      clear hK K
      try simp only [Act.put, List.setIfInBounds_toArray, List.set_cons_zero, List.set_cons_succ]
      refine wpAnyH_ready (rs := [3, 8]) (by kernel_rfl) (by simp) ?_
      refine (AllReadyH.cons (o := _) rfl (fun K hK => ?_) (AllReadyH.cons (o := _) rfl (fun K hK => ?_) AllReadyH.nil))
      · skip
        rw [if_pos (by kernel_rfl)]
        go_simp
        refine hK.out _ _ trivial (fun _ => ?_)
        clear hK K
        try simp only [Act.put, List.setIfInBounds_toArray, List.set_cons_zero, List.set_cons_succ]
        refine wpAnyH_ready (rs := [8]) (by kernel_rfl) (by simp) ?_
        refine (AllReadyH.cons (o := _) rfl (fun K hK => ?_) AllReadyH.nil)
        rw [if_pos (by kernel_rfl)]
        refine wp_copy_eq (.tmp 10) (.tmp 11) 77 38 ?_ (.slice (some ⟨rb, L.length, none⟩) q q) (.slice (some ⟨ib, 0, none⟩) 20 20) ?_ ?_ RC.out ?_
        · rfl
        · kernel_rfl
        · kernel_rfl
        refine hK.out _ _ trivial (fun _ => ?_)
        clear hK K
        generalize w1.setCells rb L.length (bytesV (idB f)) = w2 at *
        change wpAnyH _ _ _ _ _ _ _ (Act.put _ (some 12) _) _
        try simp only [Act.put, List.setIfInBounds_toArray, List.set_cons_zero, List.set_cons_succ]
        refine wpAnyH_take (i := 9) (v := .slice (some ⟨rb, L.length + 20, none⟩) (q - 20) (q - 20)) rfl (by kernel_rfl) (by kernel_rfl) (by kernel_rfl) (fun _ _ _ h => h) (Or.inl ⟨by kernel_rfl, fun w hSw => by go_simp⟩) trivial ?_
        change wpAnyH _ _ _ _ _ _ _ (Act.put _ (some 13) _) _
        try simp only [Act.put, List.setIfInBounds_toArray, List.set_cons_zero, List.set_cons_succ]
        refine wpAnyH_take (i := 10) (v := .pointer (some ⟨sb, 0, none⟩)) rfl (by kernel_rfl) (by kernel_rfl) (by kernel_rfl) (fun _ _ _ h => h) (Or.inl ⟨by kernel_rfl, fun w hSw => by go_simp⟩) trivial ?_
        change wpAnyH _ _ _ _ _ _ _ (Act.put _ (some 14) _) _
        try simp only [Act.put, List.setIfInBounds_toArray, List.set_cons_zero, List.set_cons_succ]
        refine wpAnyH_ready (rs := [11]) (by kernel_rfl) (by simp) ?_
        refine (AllReadyH.cons (o := _) rfl (fun K hK => ?_) AllReadyH.nil)
        rw [if_pos (by kernel_rfl)]
        go_simp
        refine hK.out _ _ trivial (fun _ => ?_)
        clear hK K
        try simp only [Act.put, List.setIfInBounds_toArray, List.set_cons_zero, List.set_cons_succ]
        refine wpAnyH_done (by kernel_rfl) ?_ _
        go_wp2_with fail
        go_end0
        exact ⟨rfl, FN.out _⟩
      · skip
        rw [if_pos (by kernel_rfl)]
        refine wp_copy_eq (.tmp 10) (.tmp 11) 77 38 ?_ (.slice (some ⟨rb, L.length, none⟩) q q) (.slice (some ⟨ib, 0, none⟩) 20 20) ?_ ?_ RC.out ?_
        · rfl
        · kernel_rfl
        · kernel_rfl
        refine hK.out _ _ trivial (fun _ => ?_)
        clear hK K
        generalize w1.setCells rb L.length (bytesV (idB f)) = w2 at *
        change wpAnyH _ _ _ _ _ _ _ (Act.put _ (some 12) _) _
        try simp only [Act.put, List.setIfInBounds_toArray, List.set_cons_zero, List.set_cons_succ]
        refine wpAnyH_ready (rs := [3]) (by kernel_rfl) (by simp) ?_
        refine (AllReadyH.cons (o := _) rfl (fun K hK => ?_) AllReadyH.nil)
        rw [if_pos (by kernel_rfl)]
        go_simp
        refine hK.out _ _ trivial (fun _ => ?_)
        clear hK K
        try simp only [Act.put, List.setIfInBounds_toArray, List.set_cons_zero, List.set_cons_succ]
        refine wpAnyH_take (i := 9) (v := .slice (some ⟨rb, L.length + 20, none⟩) (q - 20) (q - 20)) rfl (by kernel_rfl) (by kernel_rfl) (by kernel_rfl) (fun _ _ _ h => h) (Or.inl ⟨by kernel_rfl, fun w hSw => by go_simp⟩) trivial ?_
        change wpAnyH _ _ _ _ _ _ _ (Act.put _ (some 13) _) _
        try simp only [Act.put, List.setIfInBounds_toArray, List.set_cons_zero, List.set_cons_succ]
        refine wpAnyH_take (i := 10) (v := .pointer (some ⟨sb, 0, none⟩)) rfl (by kernel_rfl) (by kernel_rfl) (by kernel_rfl) (fun _ _ _ h => h) (Or.inl ⟨by kernel_rfl, fun w hSw => by go_simp⟩) trivial ?_
        change wpAnyH _ _ _ _ _ _ _ (Act.put _ (some 14) _) _
        try simp only [Act.put, List.setIfInBounds_toArray, List.set_cons_zero, List.set_cons_succ]
        refine wpAnyH_ready (rs := [11]) (by kernel_rfl) (by simp) ?_
        refine (AllReadyH.cons (o := _) rfl (fun K hK => ?_) AllReadyH.nil)
        rw [if_pos (by kernel_rfl)]
        go_simp
        refine hK.out _ _ trivial (fun _ => ?_)
        clear hK K
        try simp only [Act.put, List.setIfInBounds_toArray, List.set_cons_zero, List.set_cons_succ]
        refine wpAnyH_done (by kernel_rfl) ?_ _
        go_wp2_with fail
        go_end0
        exact ⟨rfl, FN.out _⟩

end Go.Proofs.Qxb6614450a.W
