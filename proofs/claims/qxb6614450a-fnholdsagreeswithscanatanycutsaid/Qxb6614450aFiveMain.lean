import Derived.Test.Qxb6614450aFive
namespace Go.Proofs.Qxb6614450a.W
open Go.RowKit
set_option linter.unusedSimpArgs false

set_option maxHeartbeats 4000000 in
set_option maxRecDepth 100000 in
theorem five_calls (a : Option Addr) (n c : Nat) (F : Nat → Nat → Nat) (g : Nat → Nat) (k : Int) (w : World) (hn : n ≤ 9223372036854775807) (hcap : n ≤ c) (hsp : 0 < c → ∃ b o, a = some ⟨b, o, none⟩) (ho : Ids w a n F) (hF : ∀ i j, F i j < 256) (hg : ∀ j, g j < 256)
    (hk : -9223372036854775808 ≤ k ∧ k ≤ 9223372036854775807) :
    Calls Try.prog 5 #[.slice a n c, .agg (idL g).toArray, .int .i64 k] w fun e w' => e = .returned (.bool true) ∧ Below w.heap.size w w' := by
  have L1 : Hid ((w.alloc (.cells (idL g).toArray 25)).rangeAt w.heap.size 0 (idL g)) := (At.new w g 25).range
  have B1 : Hid (Below w.heap.size w (w.alloc (.cells (idL g).toArray 25))) := below_alloc _ _
  have HO : Hid (Ids (w.alloc (.cells (idL g).toArray 25)) a n F) := ho.below (below_alloc _ _)
  have HF : Hid (∀ i j, F i j < 256) := hF
  have HGG : Hid (∀ j, g j < 256) := hg
  clear ho hF hg
  go_enter Try.func5, Try.ntmps5
  go_wp2_with (refine wpList_load_mid rfl 25 _ rfl w.heap.size 0 rfl (idL g) _ L1.out Try.underlying25 rfl (szL25 g) ?_)
  generalize w.alloc (.cells (idL g).toArray 25) = W1 at *
  obtain ⟨B, hBB⟩ : ∃ B, B = w.heap.size := ⟨_, rfl⟩
  rw [← hBB] at L1
  rw [← hBB]
  clear hBB
  refine (zzBytes9_calls a n c g k W1 hn).mono ?_
  rintro e w2 ⟨⟨rfl, hn1⟩ | rfl, hb2⟩
  · have K2 : Hid (Keeps W1 w2) := ⟨hb2⟩
    clear hb2
    by_cases h1 : 32768 < n
    · have t1 : decide ((32768 : Int) < (n : Int)) = true := by simp; omega
      go_wp2_with fail
      go_ret
      exact ⟨rfl, bthen B1.out K2.out.b⟩
    · have t1 : decide ((32768 : Int) < (n : Int)) = false := by simp; omega
      have hn2 : n ≤ 32768 := by omega
      clear hn hn1 h1
      by_cases hk0 : k < 0
      · have t2 : decide (k < 0) = true := by simpa using hk0
        go_wp2_with fail
        go_ret
        exact ⟨rfl, bthen B1.out K2.out.b⟩
      · have t2 : decide (k < 0) = false := by simpa using hk0
        by_cases hkn : (n : Int) < k
        · have t3 : decide ((n : Int) < k) = true := by simpa using hkn
          go_wp2_with fail
          go_ret
          exact ⟨rfl, bthen B1.out K2.out.b⟩
        · have t3 : decide ((n : Int) < k) = false := by simpa using hkn
          obtain ⟨q, rfl⟩ : ∃ q : Nat, k = q := ⟨k.toNat, by omega⟩
          have hq : q ≤ n := by omega
          clear hk hk0 hkn
          go_wp2_with fail
          refine (idsSorted_calls a n c F w2 (by omega) (HO.out.below K2.out.b) HF.out).mono ?_
          rintro e w3 ⟨⟨rfl, hsrt⟩ | rfl, hb3⟩
          · have HS : Hid (Sorted (num F) n) := hsrt
            have K3 : Hid (Keeps W1 w3) := ⟨bthen K2.out.b hb3⟩
            clear hb3 hsrt K2
            go_wp2_with fail
            refine (idsHeld_calls a n c F w3 (by omega) (HO.out.below K3.out.b)).mono ?_
            rintro e w4 ⟨rfl, hb4, hobj⟩
            have K4 : Hid (Keeps W1 w4) := ⟨bthen K3.out.b hb4⟩
            have L4 : Hid (w4.rangeAt B 0 (idL g)) := rangeAt_below L1.out K4.out.b
            generalize w3.heap.size = H at *
            have OB : Hid (Objs w4 (some ⟨H, 0, none⟩) n F) := hobj
            clear hb4 hobj K3
            have TH : Hid ((w4.alloc (.cells #[Value.int .u8 0, Value.int .u8 0, Value.int .u8 0, Value.int .u8 0, Value.int .u8 0, Value.int .u8 0, Value.int .u8 0, Value.int .u8 0, Value.int .u8 0, Value.int .u8 0, Value.int .u8 0, Value.int .u8 0, Value.int .u8 0, Value.int .u8 0, Value.int .u8 0, Value.int .u8 0, Value.int .u8 0, Value.int .u8 0, Value.int .u8 0, Value.int .u8 0] 30)).there w4.heap.size 0 (idL g).toArray.size) := fun j hj => by
              have hj : j < 20 := by simpa [idL_len] using hj
              refine ⟨?_, World.frozen?_alloc_at _ _ _ _ rfl⟩
              rw [Nat.zero_add, World.cell?_alloc_new]
              simp [hj]
            have SZ : Hid ((Try.prog.info? 30).map (·.size) = some (idL g).toArray.size) := by show _ = _; simpa using szL30 g
            have L5 : Hid (((w4.alloc (.cells #[Value.int .u8 0, Value.int .u8 0, Value.int .u8 0, Value.int .u8 0, Value.int .u8 0, Value.int .u8 0, Value.int .u8 0, Value.int .u8 0, Value.int .u8 0, Value.int .u8 0, Value.int .u8 0, Value.int .u8 0, Value.int .u8 0, Value.int .u8 0, Value.int .u8 0, Value.int .u8 0, Value.int .u8 0, Value.int .u8 0, Value.int .u8 0, Value.int .u8 0] 30)).setCells w4.heap.size 0 (idL g).toArray.toList).rangeAt w4.heap.size 0 (idL g)) := World.rangeAt_setCells_same _ _ _ _ (by simpa using TH.out)
            have B5 : Hid (Below w4.heap.size w4 ((w4.alloc (.cells #[Value.int .u8 0, Value.int .u8 0, Value.int .u8 0, Value.int .u8 0, Value.int .u8 0, Value.int .u8 0, Value.int .u8 0, Value.int .u8 0, Value.int .u8 0, Value.int .u8 0, Value.int .u8 0, Value.int .u8 0, Value.int .u8 0, Value.int .u8 0, Value.int .u8 0, Value.int .u8 0, Value.int .u8 0, Value.int .u8 0, Value.int .u8 0, Value.int .u8 0] 30)).setCells w4.heap.size 0 (idL g).toArray.toList)) := below_setCells _ (Nat.le_refl _) _ _ _ (below_alloc _ _)
            go_wp2_with (first | (refine wpList_load_mid rfl 25 (.tmp 4) ?_ B 0 ?_ (idL g) _ ?_ Try.underlying25 rfl (szL25 g) ?_; (· rfl); (· kernel_rfl); (· exact L4.out)) | (refine wpList_store_mid rfl 30 (.tmp 8) (.tmp 33) ?_ w4.heap.size 0 (idL g).toArray ?_ ?_ ?_ SZ.out (idL_one g) ?_; (· rfl); (· kernel_rfl); (· kernel_rfl); (· exact TH.out); generalize (w4.alloc (.cells #[Value.int .u8 0, Value.int .u8 0, Value.int .u8 0, Value.int .u8 0, Value.int .u8 0, Value.int .u8 0, Value.int .u8 0, Value.int .u8 0, Value.int .u8 0, Value.int .u8 0, Value.int .u8 0, Value.int .u8 0, Value.int .u8 0, Value.int .u8 0, Value.int .u8 0, Value.int .u8 0, Value.int .u8 0, Value.int .u8 0, Value.int .u8 0, Value.int .u8 0] 30)).setCells w4.heap.size 0 (idL g).toArray.toList = w5 at L5 B5 ⊢; clear TH L4 SZ) | (refine wpList_load_mid rfl 30 (.tmp 8) ?_ w4.heap.size 0 ?_ (idL g) _ ?_ Try.underlying30 rfl (szL30 g) ?_; (· rfl); (· kernel_rfl); (· exact L5.out)))
            have O5 : Hid (Objs w5 (some ⟨H, 0, none⟩) n F) := OB.out.below B5.out
            have I5 : Hid (Ids w5 a n F) := HO.out.below (bthen K4.out.b B5.out)
            have LB : Hid (w5.rangeAt B 0 (idL g)) := rangeAt_below L1.out (bthen K4.out.b B5.out)
            have BW : Hid (Below w.heap.size w w5) := bthen B1.out (bthen K4.out.b B5.out)
            clear OB HO L1 B1 K4 B5
            have CL : Hid (∀ W, Keeps w5 W → Calls Try.prog 12 #[.slice (some ⟨H, 0, none⟩) q n, .agg (idL g).toArray] W fun e w' => e = .returned (.bool (has (num F) q (val g 20))) ∧ Keeps w5 w') := fun W hW =>
              (ZZholds_calls _ q n F g W (by omega) ((O5.out.first hq).below hW.b) HF.out HGG.out (HS.out.first hq)).mono fun e w' h => ⟨h.1, ⟨bthen hW.b h.2⟩⟩
            refine (ZZholds_calls _ n n F g w5 (by omega) O5.out HF.out HGG.out HS.out).mono ?_
            rintro e w6 ⟨rfl, hb6⟩
            have K6 : Hid (Keeps w5 w6) := ⟨hb6⟩
            clear hb6
            go_wp2_with fail
            obtain ⟨vL, hvL⟩ : ∃ v, v = has (num F) q (val g 20) := ⟨_, rfl⟩
            rw [← hvL] at CL
            have HVL : Hid (vL = has (num F) q (val g 20)) := hvL
            clear hvL
            refine wp_region_held_drew (S := fun w' => Keeps w5 w') (by kernel_rfl) ⟨K6.out.b.drew⟩ (fun hHeld => ?_)
            refine wpAnyH_take (i := 0) (v := .slice (some ⟨H, 0, none⟩) n n) rfl (by kernel_rfl) (by kernel_rfl) (by kernel_rfl) (fun _ _ _ h => h) (Or.inl ⟨by kernel_rfl, fun w hSw => by go_simp⟩) (by assumption) ?_
            change wpAnyH _ _ _ _ _ _ _ (Act.put _ (some 37) _) _
            try simp only [Act.put, List.setIfInBounds_toArray, List.set_cons_zero, List.set_cons_succ]
            refine wpAnyH_take (i := 1) (v := .int .i64 q) rfl (by kernel_rfl) (by kernel_rfl) (by kernel_rfl) (fun _ _ _ h => h) (Or.inl ⟨by kernel_rfl, fun w hSw => by go_simp⟩) (by assumption) ?_
            change wpAnyH _ _ _ _ _ _ _ (Act.put _ (some 38) _) _
            try simp only [Act.put, List.setIfInBounds_toArray, List.set_cons_zero, List.set_cons_succ]
            refine wpAnyH_take (i := 2) (v := .slice (some ⟨H, 0, none⟩) q n) rfl (by kernel_rfl) (by kernel_rfl) (by kernel_rfl) (fun _ _ _ h => h) (Or.inl ⟨by kernel_rfl, fun w hSw => by go_simp⟩) (by assumption) ?_
            change wpAnyH _ _ _ _ _ _ _ (Act.put _ (some 39) _) _
            try simp only [Act.put, List.setIfInBounds_toArray, List.set_cons_zero, List.set_cons_succ]
            refine wpAnyH_take (i := 3) (v := .agg (idL g).toArray) rfl (by kernel_rfl) (by kernel_rfl) (by kernel_rfl) (fun _ _ _ h => h) ?hy3 (by assumption) ?_
            case hy3 =>
              refine yieldsIf_load_mid ?hw3 30 _ rfl w4.heap.size (0) ?hx3 (idL g) _ (fun w hw => rangeAt_below L5.out hw.b) Try.underlying30 rfl (szL30 g)
              case hw3 => kernel_rfl
              case hx3 => kernel_rfl
            change wpAnyH _ _ _ _ _ _ _ (Act.put _ (some 40) _) _
            try simp only [Act.put, List.setIfInBounds_toArray, List.set_cons_zero, List.set_cons_succ]
            refine wpAnyH_ready (rs := [4]) (by kernel_rfl) (by simp) ?_
            refine AllReadyH.cons (o := _) rfl (fun K hK => ?_) AllReadyH.nil
            rw [if_pos (by kernel_rfl)]
            go_simp
            refine (CL.out _ (by assumption)).mono ?_
            rintro e w7 ⟨rfl, hw7⟩
            refine hK.out _ _ hw7 (fun hHeldw7 => ?_)
            clear hK K
            try simp only [Act.put, List.setIfInBounds_toArray, List.set_cons_zero, List.set_cons_succ]
            refine wpAnyH_take (i := 5) (v := .bool vL) rfl (by kernel_rfl) (by kernel_rfl) (by kernel_rfl) (fun _ _ _ h => h) (Or.inl ⟨by kernel_rfl, fun w hSw => by go_simp⟩) (by assumption) ?_
            change wpAnyH _ _ _ _ _ _ _ (Act.put _ (some 10) _) _
            try simp only [Act.put, List.setIfInBounds_toArray, List.set_cons_zero, List.set_cons_succ]
            refine wpAnyH_done (by kernel_rfl) ?_ _
            have K7 : Hid (Keeps w5 w7) := hw7
            clear hw7 CL hHeld hHeldw7 K6
            go_wp2_with fail
            by_cases hqn : q < n
            · obtain ⟨vR, hvR⟩ : ∃ v, v = has (num fun i => F (q + i)) (n - q) (val g 20) := ⟨_, rfl⟩
              have HVR : Hid (vR = has (num fun i => F (q + i)) (n - q) (val g 20)) := hvR
              have CR : Hid (∀ W, Keeps w5 W → Calls Try.prog 12 #[.slice (some ⟨H, q * 24, none⟩) (n - q) (n - q), .agg (idL g).toArray] W fun e w' => e = .returned (.bool vR) ∧ Keeps w5 w') := fun W hW => by
                rw [hvR]
                have hO := O5.out.last (k := q)
                rw [Nat.zero_add] at hO
                exact (ZZholds_calls _ (n - q) (n - q) (fun i => F (q + i)) g W (by omega) (hO.below hW.b) (fun i j => HF.out _ j) HGG.out HS.out.last).mono fun e w' h => ⟨h.1, ⟨bthen hW.b h.2⟩⟩
              have hne : ¬ n = q := by omega
              have hle : (q : Int) ≤ (n : Int) := by omega
              clear hvR
              refine wp_region_held_drew (S := fun w' => Keeps w5 w') (by kernel_rfl) ⟨K7.out.b.drew⟩ (fun hHeld => ?_)
              refine wpAnyH_take (i := 0) (v := .slice (some ⟨H, 0, none⟩) n n) rfl (by kernel_rfl) (by kernel_rfl) (by kernel_rfl) (fun _ _ _ h => h) (Or.inl ⟨by kernel_rfl, fun w hSw => by go_simp⟩) (by assumption) ?_
              change wpAnyH _ _ _ _ _ _ _ (Act.put _ (some 42) _) _
              try simp only [Act.put, List.setIfInBounds_toArray, List.set_cons_zero, List.set_cons_succ]
              refine wpAnyH_take (i := 1) (v := .int .i64 q) rfl (by kernel_rfl) (by kernel_rfl) (by kernel_rfl) (fun _ _ _ h => h) (Or.inl ⟨by kernel_rfl, fun w hSw => by go_simp⟩) (by assumption) ?_
              change wpAnyH _ _ _ _ _ _ _ (Act.put _ (some 43) _) _
              try simp only [Act.put, List.setIfInBounds_toArray, List.set_cons_zero, List.set_cons_succ]
              refine wpAnyH_take (i := 2) (v := .slice (some ⟨H, q * 24, none⟩) (n - q) (n - q)) rfl (by kernel_rfl) (by kernel_rfl) (by kernel_rfl) (fun _ _ _ h => h) (Or.inl ⟨by kernel_rfl, fun w hSw => by go_simp⟩) (by assumption) ?_
              change wpAnyH _ _ _ _ _ _ _ (Act.put _ (some 44) _) _
              try simp only [Act.put, List.setIfInBounds_toArray, List.set_cons_zero, List.set_cons_succ]
              refine wpAnyH_take (i := 3) (v := .agg (idL g).toArray) rfl (by kernel_rfl) (by kernel_rfl) (by kernel_rfl) (fun _ _ _ h => h) ?hy3 (by assumption) ?_
              case hy3 =>
                refine yieldsIf_load_mid ?hw3 30 _ rfl w4.heap.size (0) ?hx3 (idL g) _ (fun w hw => rangeAt_below L5.out hw.b) Try.underlying30 rfl (szL30 g)
                case hw3 => kernel_rfl
                case hx3 => kernel_rfl
              change wpAnyH _ _ _ _ _ _ _ (Act.put _ (some 45) _) _
              try simp only [Act.put, List.setIfInBounds_toArray, List.set_cons_zero, List.set_cons_succ]
              refine wpAnyH_ready (rs := [4]) (by kernel_rfl) (by simp) ?_
              refine AllReadyH.cons (o := _) rfl (fun K hK => ?_) AllReadyH.nil
              rw [if_pos (by kernel_rfl)]
              go_simp
              refine (CR.out _ (by assumption)).mono ?_
              rintro e w8 ⟨rfl, hw8⟩
              refine hK.out _ _ hw8 (fun hHeldw8 => ?_)
              clear hK K
              try simp only [Act.put, List.setIfInBounds_toArray, List.set_cons_zero, List.set_cons_succ]
              refine wpAnyH_take (i := 5) (v := .bool vR) rfl (by kernel_rfl) (by kernel_rfl) (by kernel_rfl) (fun _ _ _ h => h) (Or.inl ⟨by kernel_rfl, fun w hSw => by go_simp⟩) (by assumption) ?_
              change wpAnyH _ _ _ _ _ _ _ (Act.put _ (some 11) _) _
              try simp only [Act.put, List.setIfInBounds_toArray, List.set_cons_zero, List.set_cons_succ]
              refine wpAnyH_done (by kernel_rfl) ?_ _
              have K8 : Hid (Keeps w5 w8) := hw8
              clear hw8 CR hHeld hHeldw8 K7
              go_wp2_with fail
              obtain ⟨b, o, rfl, _⟩ := I5.out (by omega)
              have VW : Hid (has (num F) n (val g 20) = (vL || vR)) := by
                show _ = _
                rw [HVL.out, HVR.out]
                exact has_split (num F) q n (val g 20) hq
              have M1 : Hid (∀ W, Keeps w5 W → Calls Try.prog 13 #[.slice (some ⟨b, o, none⟩) n c, .agg (idL g).toArray] W fun e w' => e = .returned (.bool (vL || vR)) ∧ Keeps w5 w') := fun W hW => by
                rw [← VW.out]
                exact (idsMember_calls _ n c F g W (by omega) (I5.out.below hW.b) HF.out HGG.out).mono fun e w' h => ⟨h.1, ⟨bthen hW.b h.2⟩⟩
              have M2 : Hid (∀ W, Keeps w5 W → Calls Try.prog 13 #[.slice (some ⟨b, o, none⟩) q c, .agg (idL g).toArray] W fun e w' => e = .returned (.bool vL) ∧ Keeps w5 w') := fun W hW => by
                rw [HVL.out]
                exact (idsMember_calls _ q c F g W (by omega) ((I5.out.first hq).below hW.b) HF.out HGG.out).mono fun e w' h => ⟨h.1, ⟨bthen hW.b h.2⟩⟩
              have M3 : Hid (∀ W, Keeps w5 W → Calls Try.prog 13 #[.slice (some ⟨b, o + q * 20, none⟩) (n - q) (c - q), .agg (idL g).toArray] W fun e w' => e = .returned (.bool vR) ∧ Keeps w5 w') := fun W hW => by
                rw [HVR.out]
                exact (idsMember_calls _ (n - q) (c - q) (fun i => F (q + i)) g W (by omega) (I5.out.last.below hW.b) (fun i j => HF.out _ j) HGG.out).mono fun e w' h => ⟨h.1, ⟨bthen hW.b h.2⟩⟩
              rw [VW.out]
              have hqc : (q : Int) ≤ (c : Int) := by omega
              have hcq : ¬ c = q := by omega
              clear VW HVL HVR
              cases vL with
              | true =>
                simp only [Bool.true_or] at M1 ⊢
                refine wp_region_held_drew (S := fun w' => Keeps w5 w') (by kernel_rfl) ⟨K8.out.b.drew⟩ (fun hHeld => ?_)
                refine wpAnyH_take (i := 0) (v := .bool true) rfl (by kernel_rfl) (by kernel_rfl) (by kernel_rfl) (fun _ _ _ h => h) (Or.inl ⟨by kernel_rfl, fun w hSw => by go_simp⟩) (by assumption) ?_
                change wpAnyH _ _ _ _ _ _ _ (Act.put _ (some 47) _) _
                try simp only [Act.put, List.setIfInBounds_toArray, List.set_cons_zero, List.set_cons_succ]
                refine wpAnyH_take (i := 1) (v := .slice (some ⟨b, o, none⟩) n c) rfl (by kernel_rfl) (by kernel_rfl) (by kernel_rfl) (fun _ _ _ h => h) (Or.inl ⟨by kernel_rfl, fun w hSw => by go_simp⟩) (by assumption) ?_
                change wpAnyH _ _ _ _ _ _ _ (Act.put _ (some 48) _) _
                try simp only [Act.put, List.setIfInBounds_toArray, List.set_cons_zero, List.set_cons_succ]
                refine wpAnyH_take (i := 2) (v := .agg (idL g).toArray) rfl (by kernel_rfl) (by kernel_rfl) (by kernel_rfl) (fun _ _ _ h => h) ?hy2 (by assumption) ?_
                case hy2 =>
                  refine yieldsIf_load_mid ?hw2 25 _ rfl B (0) ?hx2 (idL g) _ (fun w hw => rangeAt_below LB.out hw.b) Try.underlying25 rfl (szL25 g)
                  case hw2 => kernel_rfl
                  case hx2 => kernel_rfl
                change wpAnyH _ _ _ _ _ _ _ (Act.put _ (some 49) _) _
                try simp only [Act.put, List.setIfInBounds_toArray, List.set_cons_zero, List.set_cons_succ]
                refine wpAnyH_ready (rs := [3]) (by kernel_rfl) (by simp) ?_
                refine AllReadyH.cons (o := _) rfl (fun K hK => ?_) AllReadyH.nil
                rw [if_pos (by kernel_rfl)]
                go_simp
                refine (M1.out _ (by assumption)).mono ?_
                rintro e w9 ⟨rfl, hw9⟩
                refine hK.out _ _ hw9 (fun hHeldw9 => ?_)
                clear hK K
                try simp only [Act.put, List.setIfInBounds_toArray, List.set_cons_zero, List.set_cons_succ]
                refine wpAnyH_take (i := 4) (v := .bool true) rfl (by kernel_rfl) (by kernel_rfl) (by kernel_rfl) (fun _ _ _ h => h) (Or.inl ⟨by kernel_rfl, fun w hSw => by go_simp⟩) (by assumption) ?_
                change wpAnyH _ _ _ _ _ _ _ (Act.put _ (some 51) _) _
                try simp only [Act.put, List.setIfInBounds_toArray, List.set_cons_zero, List.set_cons_succ]
                refine wpAnyH_take (i := 5) (v := .bool true) rfl (by kernel_rfl) (by kernel_rfl) (by kernel_rfl) (fun _ _ _ h => h) (Or.inl ⟨by kernel_rfl, fun w hSw => by go_simp⟩) (by assumption) ?_
                change wpAnyH _ _ _ _ _ _ _ (Act.put _ (some 52) _) _
                try simp only [Act.put, List.setIfInBounds_toArray, List.set_cons_zero, List.set_cons_succ]
                refine wpAnyH_take (i := 6) (v := .bool true) rfl (by kernel_rfl) (by kernel_rfl) (by kernel_rfl) (fun _ _ _ h => h) (Or.inl ⟨by kernel_rfl, fun w hSw => by go_simp⟩) (by assumption) ?_
                change wpAnyH _ _ _ _ _ _ _ (Act.put _ (some 53) _) _
                try simp only [Act.put, List.setIfInBounds_toArray, List.set_cons_zero, List.set_cons_succ]
                refine wpAnyH_take (i := 7) (v := .slice (some ⟨b, o, none⟩) n c) rfl (by kernel_rfl) (by kernel_rfl) (by kernel_rfl) (fun _ _ _ h => h) (Or.inl ⟨by kernel_rfl, fun w hSw => by go_simp⟩) (by assumption) ?_
                change wpAnyH _ _ _ _ _ _ _ (Act.put _ (some 54) _) _
                try simp only [Act.put, List.setIfInBounds_toArray, List.set_cons_zero, List.set_cons_succ]
                refine wpAnyH_take (i := 8) (v := .int .i64 q) rfl (by kernel_rfl) (by kernel_rfl) (by kernel_rfl) (fun _ _ _ h => h) (Or.inl ⟨by kernel_rfl, fun w hSw => by go_simp⟩) (by assumption) ?_
                change wpAnyH _ _ _ _ _ _ _ (Act.put _ (some 55) _) _
                try simp only [Act.put, List.setIfInBounds_toArray, List.set_cons_zero, List.set_cons_succ]
                refine wpAnyH_take (i := 9) (v := .slice (some ⟨b, o, none⟩) q c) rfl (by kernel_rfl) (by kernel_rfl) (by kernel_rfl) (fun _ _ _ h => h) (Or.inl ⟨by kernel_rfl, fun w hSw => by go_simp⟩) (by assumption) ?_
                change wpAnyH _ _ _ _ _ _ _ (Act.put _ (some 56) _) _
                try simp only [Act.put, List.setIfInBounds_toArray, List.set_cons_zero, List.set_cons_succ]
                refine wpAnyH_take (i := 10) (v := .agg (idL g).toArray) rfl (by kernel_rfl) (by kernel_rfl) (by kernel_rfl) (fun _ _ _ h => h) ?hy10 (by assumption) ?_
                case hy10 =>
                  refine yieldsIf_load_mid ?hw10 25 _ rfl B (0) ?hx10 (idL g) _ (fun w hw => rangeAt_below LB.out hw.b) Try.underlying25 rfl (szL25 g)
                  case hw10 => kernel_rfl
                  case hx10 => kernel_rfl
                change wpAnyH _ _ _ _ _ _ _ (Act.put _ (some 57) _) _
                try simp only [Act.put, List.setIfInBounds_toArray, List.set_cons_zero, List.set_cons_succ]
                refine wpAnyH_ready (rs := [11]) (by kernel_rfl) (by simp) ?_
                refine AllReadyH.cons (o := _) rfl (fun K hK => ?_) AllReadyH.nil
                rw [if_pos (by kernel_rfl)]
                go_simp
                refine (M2.out _ (by assumption)).mono ?_
                rintro e w10 ⟨rfl, hw10⟩
                refine hK.out _ _ hw10 (fun hHeldw10 => ?_)
                clear hK K
                try simp only [Act.put, List.setIfInBounds_toArray, List.set_cons_zero, List.set_cons_succ]
                refine wpAnyH_take (i := 12) (v := .bool true) rfl (by kernel_rfl) (by kernel_rfl) (by kernel_rfl) (fun _ _ _ h => h) (Or.inl ⟨by kernel_rfl, fun w hSw => by go_simp⟩) (by assumption) ?_
                change wpAnyH _ _ _ _ _ _ _ (Act.put _ (some 59) _) _
                try simp only [Act.put, List.setIfInBounds_toArray, List.set_cons_zero, List.set_cons_succ]
                refine wpAnyH_take (i := 13) (v := .bool true) rfl (by kernel_rfl) (by kernel_rfl) (by kernel_rfl) (fun _ _ _ h => h) (Or.inl ⟨by kernel_rfl, fun w hSw => by go_simp⟩) (by assumption) ?_
                change wpAnyH _ _ _ _ _ _ _ (Act.put _ (some 60) _) _
                try simp only [Act.put, List.setIfInBounds_toArray, List.set_cons_zero, List.set_cons_succ]
                refine wpAnyH_take (i := 14) (v := .bool true) rfl (by kernel_rfl) (by kernel_rfl) (by kernel_rfl) (fun _ _ _ h => h) (Or.inl ⟨by kernel_rfl, fun w hSw => by go_simp⟩) (by assumption) ?_
                change wpAnyH _ _ _ _ _ _ _ (Act.put _ (some 61) _) _
                try simp only [Act.put, List.setIfInBounds_toArray, List.set_cons_zero, List.set_cons_succ]
                refine wpAnyH_take (i := 15) (v := .bool vR) rfl (by kernel_rfl) (by kernel_rfl) (by kernel_rfl) (fun _ _ _ h => h) (Or.inl ⟨by kernel_rfl, fun w hSw => by go_simp⟩) (by assumption) ?_
                change wpAnyH _ _ _ _ _ _ _ (Act.put _ (some 62) _) _
                try simp only [Act.put, List.setIfInBounds_toArray, List.set_cons_zero, List.set_cons_succ]
                refine wpAnyH_take (i := 16) (v := .slice (some ⟨b, o, none⟩) n c) rfl (by kernel_rfl) (by kernel_rfl) (by kernel_rfl) (fun _ _ _ h => h) (Or.inl ⟨by kernel_rfl, fun w hSw => by go_simp⟩) (by assumption) ?_
                change wpAnyH _ _ _ _ _ _ _ (Act.put _ (some 63) _) _
                try simp only [Act.put, List.setIfInBounds_toArray, List.set_cons_zero, List.set_cons_succ]
                refine wpAnyH_take (i := 17) (v := .int .i64 q) rfl (by kernel_rfl) (by kernel_rfl) (by kernel_rfl) (fun _ _ _ h => h) (Or.inl ⟨by kernel_rfl, fun w hSw => by go_simp⟩) (by assumption) ?_
                change wpAnyH _ _ _ _ _ _ _ (Act.put _ (some 64) _) _
                try simp only [Act.put, List.setIfInBounds_toArray, List.set_cons_zero, List.set_cons_succ]
                refine wpAnyH_take (i := 18) (v := .slice (some ⟨b, o + q * 20, none⟩) (n - q) (c - q)) rfl (by kernel_rfl) (by kernel_rfl) (by kernel_rfl) (fun _ _ _ h => h) (Or.inl ⟨by kernel_rfl, fun w hSw => by go_simp⟩) (by assumption) ?_
                change wpAnyH _ _ _ _ _ _ _ (Act.put _ (some 65) _) _
                try simp only [Act.put, List.setIfInBounds_toArray, List.set_cons_zero, List.set_cons_succ]
                refine wpAnyH_take (i := 19) (v := .agg (idL g).toArray) rfl (by kernel_rfl) (by kernel_rfl) (by kernel_rfl) (fun _ _ _ h => h) ?hy19 (by assumption) ?_
                case hy19 =>
                  refine yieldsIf_load_mid ?hw19 25 _ rfl B (0) ?hx19 (idL g) _ (fun w hw => rangeAt_below LB.out hw.b) Try.underlying25 rfl (szL25 g)
                  case hw19 => kernel_rfl
                  case hx19 => kernel_rfl
                change wpAnyH _ _ _ _ _ _ _ (Act.put _ (some 66) _) _
                try simp only [Act.put, List.setIfInBounds_toArray, List.set_cons_zero, List.set_cons_succ]
                refine wpAnyH_ready (rs := [20]) (by kernel_rfl) (by simp) ?_
                refine AllReadyH.cons (o := _) rfl (fun K hK => ?_) AllReadyH.nil
                rw [if_pos (by kernel_rfl)]
                go_simp
                refine (M3.out _ (by assumption)).mono ?_
                rintro e w11 ⟨rfl, hw11⟩
                refine hK.out _ _ hw11 (fun hHeldw11 => ?_)
                clear hK K
                try simp only [Act.put, List.setIfInBounds_toArray, List.set_cons_zero, List.set_cons_succ]
                refine wpAnyH_take (i := 21) (v := .bool true) rfl (by kernel_rfl) (by kernel_rfl) (by kernel_rfl) (fun _ _ _ h => h) (Or.inl ⟨by kernel_rfl, fun w hSw => by go_simp⟩) (by assumption) ?_
                change wpAnyH _ _ _ _ _ _ _ (Act.put _ (some 68) _) _
                try simp only [Act.put, List.setIfInBounds_toArray, List.set_cons_zero, List.set_cons_succ]
                refine wpAnyH_take (i := 22) (v := .bool true) rfl (by kernel_rfl) (by kernel_rfl) (by kernel_rfl) (fun _ _ _ h => h) (Or.inl ⟨by kernel_rfl, fun w hSw => by go_simp⟩) (by assumption) ?_
                change wpAnyH _ _ _ _ _ _ _ (Act.put _ (some 69) _) _
                try simp only [Act.put, List.setIfInBounds_toArray, List.set_cons_zero, List.set_cons_succ]
                refine wpAnyH_take (i := 23) (v := .bool true) rfl (by kernel_rfl) (by kernel_rfl) (by kernel_rfl) (fun _ _ _ h => h) (Or.inl ⟨by kernel_rfl, fun w hSw => by go_simp⟩) (by assumption) ?_
                change wpAnyH _ _ _ _ _ _ _ (Act.put _ (some 70) _) _
                try simp only [Act.put, List.setIfInBounds_toArray, List.set_cons_zero, List.set_cons_succ]
                refine wpAnyH_take (i := 24) (v := .bool true) rfl (by kernel_rfl) (by kernel_rfl) (by kernel_rfl) (fun _ _ _ h => h) (Or.inl ⟨by kernel_rfl, fun w hSw => by go_simp⟩) (by assumption) ?_
                change wpAnyH _ _ _ _ _ _ _ (Act.put _ (some 71) _) _
                try simp only [Act.put, List.setIfInBounds_toArray, List.set_cons_zero, List.set_cons_succ]
                refine wpAnyH_take (i := 25) (v := .bool true) rfl (by kernel_rfl) (by kernel_rfl) (by kernel_rfl) (fun _ _ _ h => h) (Or.inl ⟨by kernel_rfl, fun w hSw => by go_simp⟩) (by assumption) ?_
                change wpAnyH _ _ _ _ _ _ _ (Act.put _ (some 72) _) _
                try simp only [Act.put, List.setIfInBounds_toArray, List.set_cons_zero, List.set_cons_succ]
                refine wpAnyH_take (i := 26) (v := .bool true) rfl (by kernel_rfl) (by kernel_rfl) (by kernel_rfl) (fun _ _ _ h => h) (Or.inl ⟨by kernel_rfl, fun w hSw => by go_simp⟩) (by assumption) ?_
                change wpAnyH _ _ _ _ _ _ _ (Act.put _ (some 73) _) _
                try simp only [Act.put, List.setIfInBounds_toArray, List.set_cons_zero, List.set_cons_succ]
                refine wpAnyH_take (i := 27) (v := undef) rfl (by kernel_rfl) (by kernel_rfl) (by kernel_rfl) (fun _ _ _ h => h) (Or.inr ⟨by kernel_rfl, rfl⟩) (by assumption) ?_
                change wpAnyH _ _ _ _ _ _ _ (Act.put _ (some 74) _) _
                try simp only [Act.put, List.setIfInBounds_toArray, List.set_cons_zero, List.set_cons_succ]
                refine wpAnyH_take (i := 28) (v := .bool true) rfl (by kernel_rfl) (by kernel_rfl) (by kernel_rfl) (fun _ _ _ h => h) (Or.inl ⟨by kernel_rfl, fun w hSw => by go_simp⟩) (by assumption) ?_
                change wpAnyH _ _ _ _ _ _ _ (Act.put _ (some 75) _) _
                try simp only [Act.put, List.setIfInBounds_toArray, List.set_cons_zero, List.set_cons_succ]
                refine wpAnyH_take (i := 29) (v := .bool true) rfl (by kernel_rfl) (by kernel_rfl) (by kernel_rfl) (fun _ _ _ h => h) (Or.inl ⟨by kernel_rfl, fun w hSw => by go_simp⟩) (by assumption) ?_
                change wpAnyH _ _ _ _ _ _ _ (Act.put _ (some 76) _) _
                try simp only [Act.put, List.setIfInBounds_toArray, List.set_cons_zero, List.set_cons_succ]
                refine wpAnyH_take (i := 30) (v := .bool true) rfl (by kernel_rfl) (by kernel_rfl) (by kernel_rfl) (fun _ _ _ h => h) (Or.inl ⟨by kernel_rfl, fun w hSw => by go_simp⟩) (by assumption) ?_
                change wpAnyH _ _ _ _ _ _ _ (Act.put _ (some 77) _) _
                try simp only [Act.put, List.setIfInBounds_toArray, List.set_cons_zero, List.set_cons_succ]
                refine wpAnyH_take (i := 31) (v := .bool true) rfl (by kernel_rfl) (by kernel_rfl) (by kernel_rfl) (fun _ _ _ h => h) (Or.inl ⟨by kernel_rfl, fun w hSw => by go_simp⟩) (by assumption) ?_
                change wpAnyH _ _ _ _ _ _ _ (Act.put _ (some 6) _) _
                try simp only [Act.put, List.setIfInBounds_toArray, List.set_cons_zero, List.set_cons_succ]
                refine wpAnyH_done (by kernel_rfl) ?_ _
                go_wp2_with fail
                go_ret
                exact ⟨rfl, bthen BW.out hw11.b⟩
              | false =>
                simp only [Bool.false_or] at M1 ⊢
                refine wp_region_held_drew (S := fun w' => Keeps w5 w') (by kernel_rfl) ⟨K8.out.b.drew⟩ (fun hHeld => ?_)
                refine wpAnyH_take (i := 0) (v := .bool vR) rfl (by kernel_rfl) (by kernel_rfl) (by kernel_rfl) (fun _ _ _ h => h) (Or.inl ⟨by kernel_rfl, fun w hSw => by go_simp⟩) (by assumption) ?_
                change wpAnyH _ _ _ _ _ _ _ (Act.put _ (some 47) _) _
                try simp only [Act.put, List.setIfInBounds_toArray, List.set_cons_zero, List.set_cons_succ]
                refine wpAnyH_take (i := 1) (v := .slice (some ⟨b, o, none⟩) n c) rfl (by kernel_rfl) (by kernel_rfl) (by kernel_rfl) (fun _ _ _ h => h) (Or.inl ⟨by kernel_rfl, fun w hSw => by go_simp⟩) (by assumption) ?_
                change wpAnyH _ _ _ _ _ _ _ (Act.put _ (some 48) _) _
                try simp only [Act.put, List.setIfInBounds_toArray, List.set_cons_zero, List.set_cons_succ]
                refine wpAnyH_take (i := 2) (v := .agg (idL g).toArray) rfl (by kernel_rfl) (by kernel_rfl) (by kernel_rfl) (fun _ _ _ h => h) ?hy2 (by assumption) ?_
                case hy2 =>
                  refine yieldsIf_load_mid ?hw2 25 _ rfl B (0) ?hx2 (idL g) _ (fun w hw => rangeAt_below LB.out hw.b) Try.underlying25 rfl (szL25 g)
                  case hw2 => kernel_rfl
                  case hx2 => kernel_rfl
                change wpAnyH _ _ _ _ _ _ _ (Act.put _ (some 49) _) _
                try simp only [Act.put, List.setIfInBounds_toArray, List.set_cons_zero, List.set_cons_succ]
                refine wpAnyH_ready (rs := [3]) (by kernel_rfl) (by simp) ?_
                refine AllReadyH.cons (o := _) rfl (fun K hK => ?_) AllReadyH.nil
                rw [if_pos (by kernel_rfl)]
                go_simp
                refine (M1.out _ (by assumption)).mono ?_
                rintro e w9 ⟨rfl, hw9⟩
                refine hK.out _ _ hw9 (fun hHeldw9 => ?_)
                clear hK K
                try simp only [Act.put, List.setIfInBounds_toArray, List.set_cons_zero, List.set_cons_succ]
                refine wpAnyH_take (i := 4) (v := .bool true) rfl (by kernel_rfl) (by kernel_rfl) (by kernel_rfl) (fun _ _ _ h => h) (Or.inl ⟨by kernel_rfl, fun w hSw => by go_simp⟩) (by assumption) ?_
                change wpAnyH _ _ _ _ _ _ _ (Act.put _ (some 51) _) _
                try simp only [Act.put, List.setIfInBounds_toArray, List.set_cons_zero, List.set_cons_succ]
                refine wpAnyH_take (i := 5) (v := .bool true) rfl (by kernel_rfl) (by kernel_rfl) (by kernel_rfl) (fun _ _ _ h => h) (Or.inl ⟨by kernel_rfl, fun w hSw => by go_simp⟩) (by assumption) ?_
                change wpAnyH _ _ _ _ _ _ _ (Act.put _ (some 52) _) _
                try simp only [Act.put, List.setIfInBounds_toArray, List.set_cons_zero, List.set_cons_succ]
                refine wpAnyH_take (i := 6) (v := .bool false) rfl (by kernel_rfl) (by kernel_rfl) (by kernel_rfl) (fun _ _ _ h => h) (Or.inl ⟨by kernel_rfl, fun w hSw => by go_simp⟩) (by assumption) ?_
                change wpAnyH _ _ _ _ _ _ _ (Act.put _ (some 53) _) _
                try simp only [Act.put, List.setIfInBounds_toArray, List.set_cons_zero, List.set_cons_succ]
                refine wpAnyH_take (i := 7) (v := .slice (some ⟨b, o, none⟩) n c) rfl (by kernel_rfl) (by kernel_rfl) (by kernel_rfl) (fun _ _ _ h => h) (Or.inl ⟨by kernel_rfl, fun w hSw => by go_simp⟩) (by assumption) ?_
                change wpAnyH _ _ _ _ _ _ _ (Act.put _ (some 54) _) _
                try simp only [Act.put, List.setIfInBounds_toArray, List.set_cons_zero, List.set_cons_succ]
                refine wpAnyH_take (i := 8) (v := .int .i64 q) rfl (by kernel_rfl) (by kernel_rfl) (by kernel_rfl) (fun _ _ _ h => h) (Or.inl ⟨by kernel_rfl, fun w hSw => by go_simp⟩) (by assumption) ?_
                change wpAnyH _ _ _ _ _ _ _ (Act.put _ (some 55) _) _
                try simp only [Act.put, List.setIfInBounds_toArray, List.set_cons_zero, List.set_cons_succ]
                refine wpAnyH_take (i := 9) (v := .slice (some ⟨b, o, none⟩) q c) rfl (by kernel_rfl) (by kernel_rfl) (by kernel_rfl) (fun _ _ _ h => h) (Or.inl ⟨by kernel_rfl, fun w hSw => by go_simp⟩) (by assumption) ?_
                change wpAnyH _ _ _ _ _ _ _ (Act.put _ (some 56) _) _
                try simp only [Act.put, List.setIfInBounds_toArray, List.set_cons_zero, List.set_cons_succ]
                refine wpAnyH_take (i := 10) (v := .agg (idL g).toArray) rfl (by kernel_rfl) (by kernel_rfl) (by kernel_rfl) (fun _ _ _ h => h) ?hy10 (by assumption) ?_
                case hy10 =>
                  refine yieldsIf_load_mid ?hw10 25 _ rfl B (0) ?hx10 (idL g) _ (fun w hw => rangeAt_below LB.out hw.b) Try.underlying25 rfl (szL25 g)
                  case hw10 => kernel_rfl
                  case hx10 => kernel_rfl
                change wpAnyH _ _ _ _ _ _ _ (Act.put _ (some 57) _) _
                try simp only [Act.put, List.setIfInBounds_toArray, List.set_cons_zero, List.set_cons_succ]
                refine wpAnyH_ready (rs := [11]) (by kernel_rfl) (by simp) ?_
                refine AllReadyH.cons (o := _) rfl (fun K hK => ?_) AllReadyH.nil
                rw [if_pos (by kernel_rfl)]
                go_simp
                refine (M2.out _ (by assumption)).mono ?_
                rintro e w10 ⟨rfl, hw10⟩
                refine hK.out _ _ hw10 (fun hHeldw10 => ?_)
                clear hK K
                try simp only [Act.put, List.setIfInBounds_toArray, List.set_cons_zero, List.set_cons_succ]
                refine wpAnyH_take (i := 12) (v := .bool true) rfl (by kernel_rfl) (by kernel_rfl) (by kernel_rfl) (fun _ _ _ h => h) (Or.inl ⟨by kernel_rfl, fun w hSw => by go_simp⟩) (by assumption) ?_
                change wpAnyH _ _ _ _ _ _ _ (Act.put _ (some 59) _) _
                try simp only [Act.put, List.setIfInBounds_toArray, List.set_cons_zero, List.set_cons_succ]
                refine wpAnyH_take (i := 13) (v := .bool true) rfl (by kernel_rfl) (by kernel_rfl) (by kernel_rfl) (fun _ _ _ h => h) (Or.inl ⟨by kernel_rfl, fun w hSw => by go_simp⟩) (by assumption) ?_
                change wpAnyH _ _ _ _ _ _ _ (Act.put _ (some 60) _) _
                try simp only [Act.put, List.setIfInBounds_toArray, List.set_cons_zero, List.set_cons_succ]
                refine wpAnyH_take (i := 14) (v := .bool true) rfl (by kernel_rfl) (by kernel_rfl) (by kernel_rfl) (fun _ _ _ h => h) (Or.inl ⟨by kernel_rfl, fun w hSw => by go_simp⟩) (by assumption) ?_
                change wpAnyH _ _ _ _ _ _ _ (Act.put _ (some 61) _) _
                try simp only [Act.put, List.setIfInBounds_toArray, List.set_cons_zero, List.set_cons_succ]
                refine wpAnyH_take (i := 15) (v := .bool vR) rfl (by kernel_rfl) (by kernel_rfl) (by kernel_rfl) (fun _ _ _ h => h) (Or.inl ⟨by kernel_rfl, fun w hSw => by go_simp⟩) (by assumption) ?_
                change wpAnyH _ _ _ _ _ _ _ (Act.put _ (some 62) _) _
                try simp only [Act.put, List.setIfInBounds_toArray, List.set_cons_zero, List.set_cons_succ]
                refine wpAnyH_take (i := 16) (v := .slice (some ⟨b, o, none⟩) n c) rfl (by kernel_rfl) (by kernel_rfl) (by kernel_rfl) (fun _ _ _ h => h) (Or.inl ⟨by kernel_rfl, fun w hSw => by go_simp⟩) (by assumption) ?_
                change wpAnyH _ _ _ _ _ _ _ (Act.put _ (some 63) _) _
                try simp only [Act.put, List.setIfInBounds_toArray, List.set_cons_zero, List.set_cons_succ]
                refine wpAnyH_take (i := 17) (v := .int .i64 q) rfl (by kernel_rfl) (by kernel_rfl) (by kernel_rfl) (fun _ _ _ h => h) (Or.inl ⟨by kernel_rfl, fun w hSw => by go_simp⟩) (by assumption) ?_
                change wpAnyH _ _ _ _ _ _ _ (Act.put _ (some 64) _) _
                try simp only [Act.put, List.setIfInBounds_toArray, List.set_cons_zero, List.set_cons_succ]
                refine wpAnyH_take (i := 18) (v := .slice (some ⟨b, o + q * 20, none⟩) (n - q) (c - q)) rfl (by kernel_rfl) (by kernel_rfl) (by kernel_rfl) (fun _ _ _ h => h) (Or.inl ⟨by kernel_rfl, fun w hSw => by go_simp⟩) (by assumption) ?_
                change wpAnyH _ _ _ _ _ _ _ (Act.put _ (some 65) _) _
                try simp only [Act.put, List.setIfInBounds_toArray, List.set_cons_zero, List.set_cons_succ]
                refine wpAnyH_take (i := 19) (v := .agg (idL g).toArray) rfl (by kernel_rfl) (by kernel_rfl) (by kernel_rfl) (fun _ _ _ h => h) ?hy19 (by assumption) ?_
                case hy19 =>
                  refine yieldsIf_load_mid ?hw19 25 _ rfl B (0) ?hx19 (idL g) _ (fun w hw => rangeAt_below LB.out hw.b) Try.underlying25 rfl (szL25 g)
                  case hw19 => kernel_rfl
                  case hx19 => kernel_rfl
                change wpAnyH _ _ _ _ _ _ _ (Act.put _ (some 66) _) _
                try simp only [Act.put, List.setIfInBounds_toArray, List.set_cons_zero, List.set_cons_succ]
                refine wpAnyH_ready (rs := [20]) (by kernel_rfl) (by simp) ?_
                refine AllReadyH.cons (o := _) rfl (fun K hK => ?_) AllReadyH.nil
                rw [if_pos (by kernel_rfl)]
                go_simp
                refine (M3.out _ (by assumption)).mono ?_
                rintro e w11 ⟨rfl, hw11⟩
                refine hK.out _ _ hw11 (fun hHeldw11 => ?_)
                clear hK K
                try simp only [Act.put, List.setIfInBounds_toArray, List.set_cons_zero, List.set_cons_succ]
                refine wpAnyH_take (i := 21) (v := .bool true) rfl (by kernel_rfl) (by kernel_rfl) (by kernel_rfl) (fun _ _ _ h => h) (Or.inl ⟨by kernel_rfl, fun w hSw => by go_simp⟩) (by assumption) ?_
                change wpAnyH _ _ _ _ _ _ _ (Act.put _ (some 68) _) _
                try simp only [Act.put, List.setIfInBounds_toArray, List.set_cons_zero, List.set_cons_succ]
                refine wpAnyH_take (i := 22) (v := .bool true) rfl (by kernel_rfl) (by kernel_rfl) (by kernel_rfl) (fun _ _ _ h => h) (Or.inl ⟨by kernel_rfl, fun w hSw => by go_simp⟩) (by assumption) ?_
                change wpAnyH _ _ _ _ _ _ _ (Act.put _ (some 69) _) _
                try simp only [Act.put, List.setIfInBounds_toArray, List.set_cons_zero, List.set_cons_succ]
                refine wpAnyH_take (i := 23) (v := .bool true) rfl (by kernel_rfl) (by kernel_rfl) (by kernel_rfl) (fun _ _ _ h => h) (Or.inl ⟨by kernel_rfl, fun w hSw => by go_simp⟩) (by assumption) ?_
                change wpAnyH _ _ _ _ _ _ _ (Act.put _ (some 70) _) _
                try simp only [Act.put, List.setIfInBounds_toArray, List.set_cons_zero, List.set_cons_succ]
                refine wpAnyH_take (i := 24) (v := .bool vR) rfl (by kernel_rfl) (by kernel_rfl) (by kernel_rfl) (fun _ _ _ h => h) (Or.inl ⟨by kernel_rfl, fun w hSw => by go_simp⟩) (by assumption) ?_
                change wpAnyH _ _ _ _ _ _ _ (Act.put _ (some 71) _) _
                try simp only [Act.put, List.setIfInBounds_toArray, List.set_cons_zero, List.set_cons_succ]
                refine wpAnyH_take (i := 25) (v := .bool false) rfl (by kernel_rfl) (by kernel_rfl) (by kernel_rfl) (fun _ _ _ h => h) (Or.inl ⟨by kernel_rfl, fun w hSw => by go_simp⟩) (by assumption) ?_
                change wpAnyH _ _ _ _ _ _ _ (Act.put _ (some 72) _) _
                try simp only [Act.put, List.setIfInBounds_toArray, List.set_cons_zero, List.set_cons_succ]
                refine wpAnyH_take (i := 26) (v := .bool false) rfl (by kernel_rfl) (by kernel_rfl) (by kernel_rfl) (fun _ _ _ h => h) (Or.inl ⟨by kernel_rfl, fun w hSw => by go_simp⟩) (by assumption) ?_
                change wpAnyH _ _ _ _ _ _ _ (Act.put _ (some 73) _) _
                try simp only [Act.put, List.setIfInBounds_toArray, List.set_cons_zero, List.set_cons_succ]
                refine wpAnyH_take (i := 27) (v := .bool vR) rfl (by kernel_rfl) (by kernel_rfl) (by kernel_rfl) (fun _ _ _ h => h) (Or.inl ⟨by kernel_rfl, fun w hSw => by go_simp⟩) (by assumption) ?_
                change wpAnyH _ _ _ _ _ _ _ (Act.put _ (some 74) _) _
                try simp only [Act.put, List.setIfInBounds_toArray, List.set_cons_zero, List.set_cons_succ]
                refine wpAnyH_take (i := 28) (v := .bool vR) rfl (by kernel_rfl) (by kernel_rfl) (by kernel_rfl) (fun _ _ _ h => h) (Or.inl ⟨by kernel_rfl, fun w hSw => by go_simp⟩) (by assumption) ?_
                change wpAnyH _ _ _ _ _ _ _ (Act.put _ (some 75) _) _
                try simp only [Act.put, List.setIfInBounds_toArray, List.set_cons_zero, List.set_cons_succ]
                refine wpAnyH_take (i := 29) (v := .bool true) rfl (by kernel_rfl) (by kernel_rfl) (by kernel_rfl) (fun _ _ _ h => h) (Or.inl ⟨by kernel_rfl, fun w hSw => by go_simp⟩) (by assumption) ?_
                change wpAnyH _ _ _ _ _ _ _ (Act.put _ (some 76) _) _
                try simp only [Act.put, List.setIfInBounds_toArray, List.set_cons_zero, List.set_cons_succ]
                refine wpAnyH_take (i := 30) (v := .bool true) rfl (by kernel_rfl) (by kernel_rfl) (by kernel_rfl) (fun _ _ _ h => h) (Or.inl ⟨by kernel_rfl, fun w hSw => by go_simp⟩) (by assumption) ?_
                change wpAnyH _ _ _ _ _ _ _ (Act.put _ (some 77) _) _
                try simp only [Act.put, List.setIfInBounds_toArray, List.set_cons_zero, List.set_cons_succ]
                refine wpAnyH_take (i := 31) (v := .bool true) rfl (by kernel_rfl) (by kernel_rfl) (by kernel_rfl) (fun _ _ _ h => h) (Or.inl ⟨by kernel_rfl, fun w hSw => by go_simp⟩) (by assumption) ?_
                change wpAnyH _ _ _ _ _ _ _ (Act.put _ (some 6) _) _
                try simp only [Act.put, List.setIfInBounds_toArray, List.set_cons_zero, List.set_cons_succ]
                refine wpAnyH_done (by kernel_rfl) ?_ _
                go_wp2_with fail
                go_ret
                exact ⟨rfl, bthen BW.out hw11.b⟩
            · obtain rfl : q = n := by omega
              have CR : Hid (∀ W, Keeps w5 W → Calls Try.prog 12 #[.slice (some ⟨H, 0, none⟩) 0 0, .agg (idL g).toArray] W fun e w' => e = .returned (.bool false) ∧ Keeps w5 w') := fun W hW =>
                (ZZholds_calls _ 0 0 F g W (by omega) (fun h => absurd h (Nat.lt_irrefl _)) HF.out HGG.out (fun _ _ _ h => absurd h (Nat.not_lt_zero _))).mono fun e w' h => ⟨h.1, ⟨bthen hW.b h.2⟩⟩
              refine wp_region_held_drew (S := fun w' => Keeps w5 w') (by kernel_rfl) ⟨K7.out.b.drew⟩ (fun hHeld => ?_)
              refine wpAnyH_take (i := 0) (v := .slice (some ⟨H, 0, none⟩) q q) rfl (by kernel_rfl) (by kernel_rfl) (by kernel_rfl) (fun _ _ _ h => h) (Or.inl ⟨by kernel_rfl, fun w hSw => by go_simp⟩) (by assumption) ?_
              change wpAnyH _ _ _ _ _ _ _ (Act.put _ (some 42) _) _
              try simp only [Act.put, List.setIfInBounds_toArray, List.set_cons_zero, List.set_cons_succ]
              refine wpAnyH_take (i := 1) (v := .int .i64 q) rfl (by kernel_rfl) (by kernel_rfl) (by kernel_rfl) (fun _ _ _ h => h) (Or.inl ⟨by kernel_rfl, fun w hSw => by go_simp⟩) (by assumption) ?_
              change wpAnyH _ _ _ _ _ _ _ (Act.put _ (some 43) _) _
              try simp only [Act.put, List.setIfInBounds_toArray, List.set_cons_zero, List.set_cons_succ]
              refine wpAnyH_take (i := 2) (v := .slice (some ⟨H, 0, none⟩) 0 0) rfl (by kernel_rfl) (by kernel_rfl) (by kernel_rfl) (fun _ _ _ h => h) (Or.inl ⟨by kernel_rfl, fun w hSw => by go_simp⟩) (by assumption) ?_
              change wpAnyH _ _ _ _ _ _ _ (Act.put _ (some 44) _) _
              try simp only [Act.put, List.setIfInBounds_toArray, List.set_cons_zero, List.set_cons_succ]
              refine wpAnyH_take (i := 3) (v := .agg (idL g).toArray) rfl (by kernel_rfl) (by kernel_rfl) (by kernel_rfl) (fun _ _ _ h => h) ?hy3 (by assumption) ?_
              case hy3 =>
                refine yieldsIf_load_mid ?hw3 30 _ rfl w4.heap.size (0) ?hx3 (idL g) _ (fun w hw => rangeAt_below L5.out hw.b) Try.underlying30 rfl (szL30 g)
                case hw3 => kernel_rfl
                case hx3 => kernel_rfl
              change wpAnyH _ _ _ _ _ _ _ (Act.put _ (some 45) _) _
              try simp only [Act.put, List.setIfInBounds_toArray, List.set_cons_zero, List.set_cons_succ]
              refine wpAnyH_ready (rs := [4]) (by kernel_rfl) (by simp) ?_
              refine AllReadyH.cons (o := _) rfl (fun K hK => ?_) AllReadyH.nil
              rw [if_pos (by kernel_rfl)]
              go_simp
              refine (CR.out _ (by assumption)).mono ?_
              rintro e w8 ⟨rfl, hw8⟩
              refine hK.out _ _ hw8 (fun hHeldw8 => ?_)
              clear hK K
              try simp only [Act.put, List.setIfInBounds_toArray, List.set_cons_zero, List.set_cons_succ]
              refine wpAnyH_take (i := 5) (v := .bool false) rfl (by kernel_rfl) (by kernel_rfl) (by kernel_rfl) (fun _ _ _ h => h) (Or.inl ⟨by kernel_rfl, fun w hSw => by go_simp⟩) (by assumption) ?_
              change wpAnyH _ _ _ _ _ _ _ (Act.put _ (some 11) _) _
              try simp only [Act.put, List.setIfInBounds_toArray, List.set_cons_zero, List.set_cons_succ]
              refine wpAnyH_done (by kernel_rfl) ?_ _
              have K8 : Hid (Keeps w5 w8) := hw8
              clear hw8 CR hHeld hHeldw8 K7
              go_wp2_with fail
              have M1 : Hid (∀ W, Keeps w5 W → Calls Try.prog 13 #[.slice a q c, .agg (idL g).toArray] W fun e w' => e = .returned (.bool vL) ∧ Keeps w5 w') := fun W hW => by
                rw [HVL.out]
                exact (idsMember_calls _ q c F g W (by omega) (I5.out.below hW.b) HF.out HGG.out).mono fun e w' h => ⟨h.1, ⟨bthen hW.b h.2⟩⟩
              rw [← HVL.out]
              have hqc : (q : Int) ≤ (c : Int) := by omega
              clear HVL hqn
              by_cases hcq : c = q
              · subst hcq
                have M3 : Hid (∀ W, Keeps w5 W → Calls Try.prog 13 #[.slice a 0 0, .agg (idL g).toArray] W fun e w' => e = .returned (.bool false) ∧ Keeps w5 w') := fun W hW =>
                  (idsMember_calls _ 0 0 F g W (by omega) (fun h => absurd h (Nat.lt_irrefl _)) HF.out HGG.out).mono fun e w' h => ⟨h.1, ⟨bthen hW.b h.2⟩⟩
                cases vL with
                | true =>
                  refine wp_region_held_drew (S := fun w' => Keeps w5 w') (by kernel_rfl) ⟨K8.out.b.drew⟩ (fun hHeld => ?_)
                  refine wpAnyH_take (i := 0) (v := .bool true) rfl (by kernel_rfl) (by kernel_rfl) (by kernel_rfl) (fun _ _ _ h => h) (Or.inl ⟨by kernel_rfl, fun w hSw => by go_simp⟩) (by assumption) ?_
                  change wpAnyH _ _ _ _ _ _ _ (Act.put _ (some 47) _) _
                  try simp only [Act.put, List.setIfInBounds_toArray, List.set_cons_zero, List.set_cons_succ]
                  refine wpAnyH_take (i := 1) (v := .slice a c c) rfl (by kernel_rfl) (by kernel_rfl) (by kernel_rfl) (fun _ _ _ h => h) (Or.inl ⟨by kernel_rfl, fun w hSw => by go_simp⟩) (by assumption) ?_
                  change wpAnyH _ _ _ _ _ _ _ (Act.put _ (some 48) _) _
                  try simp only [Act.put, List.setIfInBounds_toArray, List.set_cons_zero, List.set_cons_succ]
                  refine wpAnyH_take (i := 2) (v := .agg (idL g).toArray) rfl (by kernel_rfl) (by kernel_rfl) (by kernel_rfl) (fun _ _ _ h => h) ?hy2 (by assumption) ?_
                  case hy2 =>
                    refine yieldsIf_load_mid ?hw2 25 _ rfl B (0) ?hx2 (idL g) _ (fun w hw => rangeAt_below LB.out hw.b) Try.underlying25 rfl (szL25 g)
                    case hw2 => kernel_rfl
                    case hx2 => kernel_rfl
                  change wpAnyH _ _ _ _ _ _ _ (Act.put _ (some 49) _) _
                  try simp only [Act.put, List.setIfInBounds_toArray, List.set_cons_zero, List.set_cons_succ]
                  refine wpAnyH_ready (rs := [3]) (by kernel_rfl) (by simp) ?_
                  refine AllReadyH.cons (o := _) rfl (fun K hK => ?_) AllReadyH.nil
                  rw [if_pos (by kernel_rfl)]
                  go_simp
                  refine (M1.out _ (by assumption)).mono ?_
                  rintro e w9 ⟨rfl, hw9⟩
                  refine hK.out _ _ hw9 (fun hHeldw9 => ?_)
                  clear hK K
                  try simp only [Act.put, List.setIfInBounds_toArray, List.set_cons_zero, List.set_cons_succ]
                  refine wpAnyH_take (i := 4) (v := .bool true) rfl (by kernel_rfl) (by kernel_rfl) (by kernel_rfl) (fun _ _ _ h => h) (Or.inl ⟨by kernel_rfl, fun w hSw => by go_simp⟩) (by assumption) ?_
                  change wpAnyH _ _ _ _ _ _ _ (Act.put _ (some 51) _) _
                  try simp only [Act.put, List.setIfInBounds_toArray, List.set_cons_zero, List.set_cons_succ]
                  refine wpAnyH_take (i := 5) (v := .bool true) rfl (by kernel_rfl) (by kernel_rfl) (by kernel_rfl) (fun _ _ _ h => h) (Or.inl ⟨by kernel_rfl, fun w hSw => by go_simp⟩) (by assumption) ?_
                  change wpAnyH _ _ _ _ _ _ _ (Act.put _ (some 52) _) _
                  try simp only [Act.put, List.setIfInBounds_toArray, List.set_cons_zero, List.set_cons_succ]
                  refine wpAnyH_take (i := 6) (v := .bool true) rfl (by kernel_rfl) (by kernel_rfl) (by kernel_rfl) (fun _ _ _ h => h) (Or.inl ⟨by kernel_rfl, fun w hSw => by go_simp⟩) (by assumption) ?_
                  change wpAnyH _ _ _ _ _ _ _ (Act.put _ (some 53) _) _
                  try simp only [Act.put, List.setIfInBounds_toArray, List.set_cons_zero, List.set_cons_succ]
                  refine wpAnyH_take (i := 7) (v := .slice a c c) rfl (by kernel_rfl) (by kernel_rfl) (by kernel_rfl) (fun _ _ _ h => h) (Or.inl ⟨by kernel_rfl, fun w hSw => by go_simp⟩) (by assumption) ?_
                  change wpAnyH _ _ _ _ _ _ _ (Act.put _ (some 54) _) _
                  try simp only [Act.put, List.setIfInBounds_toArray, List.set_cons_zero, List.set_cons_succ]
                  refine wpAnyH_take (i := 8) (v := .int .i64 c) rfl (by kernel_rfl) (by kernel_rfl) (by kernel_rfl) (fun _ _ _ h => h) (Or.inl ⟨by kernel_rfl, fun w hSw => by go_simp⟩) (by assumption) ?_
                  change wpAnyH _ _ _ _ _ _ _ (Act.put _ (some 55) _) _
                  try simp only [Act.put, List.setIfInBounds_toArray, List.set_cons_zero, List.set_cons_succ]
                  refine wpAnyH_take (i := 9) (v := .slice a c c) rfl (by kernel_rfl) (by kernel_rfl) (by kernel_rfl) (fun _ _ _ h => h) (Or.inl ⟨by kernel_rfl, fun w hSw => by go_simp⟩) (by assumption) ?_
                  change wpAnyH _ _ _ _ _ _ _ (Act.put _ (some 56) _) _
                  try simp only [Act.put, List.setIfInBounds_toArray, List.set_cons_zero, List.set_cons_succ]
                  refine wpAnyH_take (i := 10) (v := .agg (idL g).toArray) rfl (by kernel_rfl) (by kernel_rfl) (by kernel_rfl) (fun _ _ _ h => h) ?hy10 (by assumption) ?_
                  case hy10 =>
                    refine yieldsIf_load_mid ?hw10 25 _ rfl B (0) ?hx10 (idL g) _ (fun w hw => rangeAt_below LB.out hw.b) Try.underlying25 rfl (szL25 g)
                    case hw10 => kernel_rfl
                    case hx10 => kernel_rfl
                  change wpAnyH _ _ _ _ _ _ _ (Act.put _ (some 57) _) _
                  try simp only [Act.put, List.setIfInBounds_toArray, List.set_cons_zero, List.set_cons_succ]
                  refine wpAnyH_ready (rs := [11]) (by kernel_rfl) (by simp) ?_
                  refine AllReadyH.cons (o := _) rfl (fun K hK => ?_) AllReadyH.nil
                  rw [if_pos (by kernel_rfl)]
                  go_simp
                  refine (M1.out _ (by assumption)).mono ?_
                  rintro e w10 ⟨rfl, hw10⟩
                  refine hK.out _ _ hw10 (fun hHeldw10 => ?_)
                  clear hK K
                  try simp only [Act.put, List.setIfInBounds_toArray, List.set_cons_zero, List.set_cons_succ]
                  refine wpAnyH_take (i := 12) (v := .bool true) rfl (by kernel_rfl) (by kernel_rfl) (by kernel_rfl) (fun _ _ _ h => h) (Or.inl ⟨by kernel_rfl, fun w hSw => by go_simp⟩) (by assumption) ?_
                  change wpAnyH _ _ _ _ _ _ _ (Act.put _ (some 59) _) _
                  try simp only [Act.put, List.setIfInBounds_toArray, List.set_cons_zero, List.set_cons_succ]
                  refine wpAnyH_take (i := 13) (v := .bool true) rfl (by kernel_rfl) (by kernel_rfl) (by kernel_rfl) (fun _ _ _ h => h) (Or.inl ⟨by kernel_rfl, fun w hSw => by go_simp⟩) (by assumption) ?_
                  change wpAnyH _ _ _ _ _ _ _ (Act.put _ (some 60) _) _
                  try simp only [Act.put, List.setIfInBounds_toArray, List.set_cons_zero, List.set_cons_succ]
                  refine wpAnyH_take (i := 14) (v := .bool true) rfl (by kernel_rfl) (by kernel_rfl) (by kernel_rfl) (fun _ _ _ h => h) (Or.inl ⟨by kernel_rfl, fun w hSw => by go_simp⟩) (by assumption) ?_
                  change wpAnyH _ _ _ _ _ _ _ (Act.put _ (some 61) _) _
                  try simp only [Act.put, List.setIfInBounds_toArray, List.set_cons_zero, List.set_cons_succ]
                  refine wpAnyH_take (i := 15) (v := .bool false) rfl (by kernel_rfl) (by kernel_rfl) (by kernel_rfl) (fun _ _ _ h => h) (Or.inl ⟨by kernel_rfl, fun w hSw => by go_simp⟩) (by assumption) ?_
                  change wpAnyH _ _ _ _ _ _ _ (Act.put _ (some 62) _) _
                  try simp only [Act.put, List.setIfInBounds_toArray, List.set_cons_zero, List.set_cons_succ]
                  refine wpAnyH_take (i := 16) (v := .slice a c c) rfl (by kernel_rfl) (by kernel_rfl) (by kernel_rfl) (fun _ _ _ h => h) (Or.inl ⟨by kernel_rfl, fun w hSw => by go_simp⟩) (by assumption) ?_
                  change wpAnyH _ _ _ _ _ _ _ (Act.put _ (some 63) _) _
                  try simp only [Act.put, List.setIfInBounds_toArray, List.set_cons_zero, List.set_cons_succ]
                  refine wpAnyH_take (i := 17) (v := .int .i64 c) rfl (by kernel_rfl) (by kernel_rfl) (by kernel_rfl) (fun _ _ _ h => h) (Or.inl ⟨by kernel_rfl, fun w hSw => by go_simp⟩) (by assumption) ?_
                  change wpAnyH _ _ _ _ _ _ _ (Act.put _ (some 64) _) _
                  try simp only [Act.put, List.setIfInBounds_toArray, List.set_cons_zero, List.set_cons_succ]
                  refine wpAnyH_take (i := 18) (v := .slice a 0 0) rfl (by kernel_rfl) (by kernel_rfl) (by kernel_rfl) (fun _ _ _ h => h) (Or.inl ⟨by kernel_rfl, fun w hSw => by go_simp⟩) (by assumption) ?_
                  change wpAnyH _ _ _ _ _ _ _ (Act.put _ (some 65) _) _
                  try simp only [Act.put, List.setIfInBounds_toArray, List.set_cons_zero, List.set_cons_succ]
                  refine wpAnyH_take (i := 19) (v := .agg (idL g).toArray) rfl (by kernel_rfl) (by kernel_rfl) (by kernel_rfl) (fun _ _ _ h => h) ?hy19 (by assumption) ?_
                  case hy19 =>
                    refine yieldsIf_load_mid ?hw19 25 _ rfl B (0) ?hx19 (idL g) _ (fun w hw => rangeAt_below LB.out hw.b) Try.underlying25 rfl (szL25 g)
                    case hw19 => kernel_rfl
                    case hx19 => kernel_rfl
                  change wpAnyH _ _ _ _ _ _ _ (Act.put _ (some 66) _) _
                  try simp only [Act.put, List.setIfInBounds_toArray, List.set_cons_zero, List.set_cons_succ]
                  refine wpAnyH_ready (rs := [20]) (by kernel_rfl) (by simp) ?_
                  refine AllReadyH.cons (o := _) rfl (fun K hK => ?_) AllReadyH.nil
                  rw [if_pos (by kernel_rfl)]
                  go_simp
                  refine (M3.out _ (by assumption)).mono ?_
                  rintro e w11 ⟨rfl, hw11⟩
                  refine hK.out _ _ hw11 (fun hHeldw11 => ?_)
                  clear hK K
                  try simp only [Act.put, List.setIfInBounds_toArray, List.set_cons_zero, List.set_cons_succ]
                  refine wpAnyH_take (i := 21) (v := .bool true) rfl (by kernel_rfl) (by kernel_rfl) (by kernel_rfl) (fun _ _ _ h => h) (Or.inl ⟨by kernel_rfl, fun w hSw => by go_simp⟩) (by assumption) ?_
                  change wpAnyH _ _ _ _ _ _ _ (Act.put _ (some 68) _) _
                  try simp only [Act.put, List.setIfInBounds_toArray, List.set_cons_zero, List.set_cons_succ]
                  refine wpAnyH_take (i := 22) (v := .bool true) rfl (by kernel_rfl) (by kernel_rfl) (by kernel_rfl) (fun _ _ _ h => h) (Or.inl ⟨by kernel_rfl, fun w hSw => by go_simp⟩) (by assumption) ?_
                  change wpAnyH _ _ _ _ _ _ _ (Act.put _ (some 69) _) _
                  try simp only [Act.put, List.setIfInBounds_toArray, List.set_cons_zero, List.set_cons_succ]
                  refine wpAnyH_take (i := 23) (v := .bool true) rfl (by kernel_rfl) (by kernel_rfl) (by kernel_rfl) (fun _ _ _ h => h) (Or.inl ⟨by kernel_rfl, fun w hSw => by go_simp⟩) (by assumption) ?_
                  change wpAnyH _ _ _ _ _ _ _ (Act.put _ (some 70) _) _
                  try simp only [Act.put, List.setIfInBounds_toArray, List.set_cons_zero, List.set_cons_succ]
                  refine wpAnyH_take (i := 24) (v := .bool true) rfl (by kernel_rfl) (by kernel_rfl) (by kernel_rfl) (fun _ _ _ h => h) (Or.inl ⟨by kernel_rfl, fun w hSw => by go_simp⟩) (by assumption) ?_
                  change wpAnyH _ _ _ _ _ _ _ (Act.put _ (some 71) _) _
                  try simp only [Act.put, List.setIfInBounds_toArray, List.set_cons_zero, List.set_cons_succ]
                  refine wpAnyH_take (i := 25) (v := .bool true) rfl (by kernel_rfl) (by kernel_rfl) (by kernel_rfl) (fun _ _ _ h => h) (Or.inl ⟨by kernel_rfl, fun w hSw => by go_simp⟩) (by assumption) ?_
                  change wpAnyH _ _ _ _ _ _ _ (Act.put _ (some 72) _) _
                  try simp only [Act.put, List.setIfInBounds_toArray, List.set_cons_zero, List.set_cons_succ]
                  refine wpAnyH_take (i := 26) (v := .bool true) rfl (by kernel_rfl) (by kernel_rfl) (by kernel_rfl) (fun _ _ _ h => h) (Or.inl ⟨by kernel_rfl, fun w hSw => by go_simp⟩) (by assumption) ?_
                  change wpAnyH _ _ _ _ _ _ _ (Act.put _ (some 73) _) _
                  try simp only [Act.put, List.setIfInBounds_toArray, List.set_cons_zero, List.set_cons_succ]
                  refine wpAnyH_take (i := 27) (v := undef) rfl (by kernel_rfl) (by kernel_rfl) (by kernel_rfl) (fun _ _ _ h => h) (Or.inr ⟨by kernel_rfl, rfl⟩) (by assumption) ?_
                  change wpAnyH _ _ _ _ _ _ _ (Act.put _ (some 74) _) _
                  try simp only [Act.put, List.setIfInBounds_toArray, List.set_cons_zero, List.set_cons_succ]
                  refine wpAnyH_take (i := 28) (v := .bool true) rfl (by kernel_rfl) (by kernel_rfl) (by kernel_rfl) (fun _ _ _ h => h) (Or.inl ⟨by kernel_rfl, fun w hSw => by go_simp⟩) (by assumption) ?_
                  change wpAnyH _ _ _ _ _ _ _ (Act.put _ (some 75) _) _
                  try simp only [Act.put, List.setIfInBounds_toArray, List.set_cons_zero, List.set_cons_succ]
                  refine wpAnyH_take (i := 29) (v := .bool true) rfl (by kernel_rfl) (by kernel_rfl) (by kernel_rfl) (fun _ _ _ h => h) (Or.inl ⟨by kernel_rfl, fun w hSw => by go_simp⟩) (by assumption) ?_
                  change wpAnyH _ _ _ _ _ _ _ (Act.put _ (some 76) _) _
                  try simp only [Act.put, List.setIfInBounds_toArray, List.set_cons_zero, List.set_cons_succ]
                  refine wpAnyH_take (i := 30) (v := .bool true) rfl (by kernel_rfl) (by kernel_rfl) (by kernel_rfl) (fun _ _ _ h => h) (Or.inl ⟨by kernel_rfl, fun w hSw => by go_simp⟩) (by assumption) ?_
                  change wpAnyH _ _ _ _ _ _ _ (Act.put _ (some 77) _) _
                  try simp only [Act.put, List.setIfInBounds_toArray, List.set_cons_zero, List.set_cons_succ]
                  refine wpAnyH_take (i := 31) (v := .bool true) rfl (by kernel_rfl) (by kernel_rfl) (by kernel_rfl) (fun _ _ _ h => h) (Or.inl ⟨by kernel_rfl, fun w hSw => by go_simp⟩) (by assumption) ?_
                  change wpAnyH _ _ _ _ _ _ _ (Act.put _ (some 6) _) _
                  try simp only [Act.put, List.setIfInBounds_toArray, List.set_cons_zero, List.set_cons_succ]
                  refine wpAnyH_done (by kernel_rfl) ?_ _
                  go_wp2_with fail
                  go_ret
                  exact ⟨rfl, bthen BW.out hw11.b⟩
                | false =>
                  refine wp_region_held_drew (S := fun w' => Keeps w5 w') (by kernel_rfl) ⟨K8.out.b.drew⟩ (fun hHeld => ?_)
                  refine wpAnyH_take (i := 0) (v := .bool false) rfl (by kernel_rfl) (by kernel_rfl) (by kernel_rfl) (fun _ _ _ h => h) (Or.inl ⟨by kernel_rfl, fun w hSw => by go_simp⟩) (by assumption) ?_
                  change wpAnyH _ _ _ _ _ _ _ (Act.put _ (some 47) _) _
                  try simp only [Act.put, List.setIfInBounds_toArray, List.set_cons_zero, List.set_cons_succ]
                  refine wpAnyH_take (i := 1) (v := .slice a c c) rfl (by kernel_rfl) (by kernel_rfl) (by kernel_rfl) (fun _ _ _ h => h) (Or.inl ⟨by kernel_rfl, fun w hSw => by go_simp⟩) (by assumption) ?_
                  change wpAnyH _ _ _ _ _ _ _ (Act.put _ (some 48) _) _
                  try simp only [Act.put, List.setIfInBounds_toArray, List.set_cons_zero, List.set_cons_succ]
                  refine wpAnyH_take (i := 2) (v := .agg (idL g).toArray) rfl (by kernel_rfl) (by kernel_rfl) (by kernel_rfl) (fun _ _ _ h => h) ?hy2 (by assumption) ?_
                  case hy2 =>
                    refine yieldsIf_load_mid ?hw2 25 _ rfl B (0) ?hx2 (idL g) _ (fun w hw => rangeAt_below LB.out hw.b) Try.underlying25 rfl (szL25 g)
                    case hw2 => kernel_rfl
                    case hx2 => kernel_rfl
                  change wpAnyH _ _ _ _ _ _ _ (Act.put _ (some 49) _) _
                  try simp only [Act.put, List.setIfInBounds_toArray, List.set_cons_zero, List.set_cons_succ]
                  refine wpAnyH_ready (rs := [3]) (by kernel_rfl) (by simp) ?_
                  refine AllReadyH.cons (o := _) rfl (fun K hK => ?_) AllReadyH.nil
                  rw [if_pos (by kernel_rfl)]
                  go_simp
                  refine (M1.out _ (by assumption)).mono ?_
                  rintro e w9 ⟨rfl, hw9⟩
                  refine hK.out _ _ hw9 (fun hHeldw9 => ?_)
                  clear hK K
                  try simp only [Act.put, List.setIfInBounds_toArray, List.set_cons_zero, List.set_cons_succ]
                  refine wpAnyH_take (i := 4) (v := .bool true) rfl (by kernel_rfl) (by kernel_rfl) (by kernel_rfl) (fun _ _ _ h => h) (Or.inl ⟨by kernel_rfl, fun w hSw => by go_simp⟩) (by assumption) ?_
                  change wpAnyH _ _ _ _ _ _ _ (Act.put _ (some 51) _) _
                  try simp only [Act.put, List.setIfInBounds_toArray, List.set_cons_zero, List.set_cons_succ]
                  refine wpAnyH_take (i := 5) (v := .bool true) rfl (by kernel_rfl) (by kernel_rfl) (by kernel_rfl) (fun _ _ _ h => h) (Or.inl ⟨by kernel_rfl, fun w hSw => by go_simp⟩) (by assumption) ?_
                  change wpAnyH _ _ _ _ _ _ _ (Act.put _ (some 52) _) _
                  try simp only [Act.put, List.setIfInBounds_toArray, List.set_cons_zero, List.set_cons_succ]
                  refine wpAnyH_take (i := 6) (v := .bool false) rfl (by kernel_rfl) (by kernel_rfl) (by kernel_rfl) (fun _ _ _ h => h) (Or.inl ⟨by kernel_rfl, fun w hSw => by go_simp⟩) (by assumption) ?_
                  change wpAnyH _ _ _ _ _ _ _ (Act.put _ (some 53) _) _
                  try simp only [Act.put, List.setIfInBounds_toArray, List.set_cons_zero, List.set_cons_succ]
                  refine wpAnyH_take (i := 7) (v := .slice a c c) rfl (by kernel_rfl) (by kernel_rfl) (by kernel_rfl) (fun _ _ _ h => h) (Or.inl ⟨by kernel_rfl, fun w hSw => by go_simp⟩) (by assumption) ?_
                  change wpAnyH _ _ _ _ _ _ _ (Act.put _ (some 54) _) _
                  try simp only [Act.put, List.setIfInBounds_toArray, List.set_cons_zero, List.set_cons_succ]
                  refine wpAnyH_take (i := 8) (v := .int .i64 c) rfl (by kernel_rfl) (by kernel_rfl) (by kernel_rfl) (fun _ _ _ h => h) (Or.inl ⟨by kernel_rfl, fun w hSw => by go_simp⟩) (by assumption) ?_
                  change wpAnyH _ _ _ _ _ _ _ (Act.put _ (some 55) _) _
                  try simp only [Act.put, List.setIfInBounds_toArray, List.set_cons_zero, List.set_cons_succ]
                  refine wpAnyH_take (i := 9) (v := .slice a c c) rfl (by kernel_rfl) (by kernel_rfl) (by kernel_rfl) (fun _ _ _ h => h) (Or.inl ⟨by kernel_rfl, fun w hSw => by go_simp⟩) (by assumption) ?_
                  change wpAnyH _ _ _ _ _ _ _ (Act.put _ (some 56) _) _
                  try simp only [Act.put, List.setIfInBounds_toArray, List.set_cons_zero, List.set_cons_succ]
                  refine wpAnyH_take (i := 10) (v := .agg (idL g).toArray) rfl (by kernel_rfl) (by kernel_rfl) (by kernel_rfl) (fun _ _ _ h => h) ?hy10 (by assumption) ?_
                  case hy10 =>
                    refine yieldsIf_load_mid ?hw10 25 _ rfl B (0) ?hx10 (idL g) _ (fun w hw => rangeAt_below LB.out hw.b) Try.underlying25 rfl (szL25 g)
                    case hw10 => kernel_rfl
                    case hx10 => kernel_rfl
                  change wpAnyH _ _ _ _ _ _ _ (Act.put _ (some 57) _) _
                  try simp only [Act.put, List.setIfInBounds_toArray, List.set_cons_zero, List.set_cons_succ]
                  refine wpAnyH_ready (rs := [11]) (by kernel_rfl) (by simp) ?_
                  refine AllReadyH.cons (o := _) rfl (fun K hK => ?_) AllReadyH.nil
                  rw [if_pos (by kernel_rfl)]
                  go_simp
                  refine (M1.out _ (by assumption)).mono ?_
                  rintro e w10 ⟨rfl, hw10⟩
                  refine hK.out _ _ hw10 (fun hHeldw10 => ?_)
                  clear hK K
                  try simp only [Act.put, List.setIfInBounds_toArray, List.set_cons_zero, List.set_cons_succ]
                  refine wpAnyH_take (i := 12) (v := .bool true) rfl (by kernel_rfl) (by kernel_rfl) (by kernel_rfl) (fun _ _ _ h => h) (Or.inl ⟨by kernel_rfl, fun w hSw => by go_simp⟩) (by assumption) ?_
                  change wpAnyH _ _ _ _ _ _ _ (Act.put _ (some 59) _) _
                  try simp only [Act.put, List.setIfInBounds_toArray, List.set_cons_zero, List.set_cons_succ]
                  refine wpAnyH_take (i := 13) (v := .bool true) rfl (by kernel_rfl) (by kernel_rfl) (by kernel_rfl) (fun _ _ _ h => h) (Or.inl ⟨by kernel_rfl, fun w hSw => by go_simp⟩) (by assumption) ?_
                  change wpAnyH _ _ _ _ _ _ _ (Act.put _ (some 60) _) _
                  try simp only [Act.put, List.setIfInBounds_toArray, List.set_cons_zero, List.set_cons_succ]
                  refine wpAnyH_take (i := 14) (v := .bool true) rfl (by kernel_rfl) (by kernel_rfl) (by kernel_rfl) (fun _ _ _ h => h) (Or.inl ⟨by kernel_rfl, fun w hSw => by go_simp⟩) (by assumption) ?_
                  change wpAnyH _ _ _ _ _ _ _ (Act.put _ (some 61) _) _
                  try simp only [Act.put, List.setIfInBounds_toArray, List.set_cons_zero, List.set_cons_succ]
                  refine wpAnyH_take (i := 15) (v := .bool false) rfl (by kernel_rfl) (by kernel_rfl) (by kernel_rfl) (fun _ _ _ h => h) (Or.inl ⟨by kernel_rfl, fun w hSw => by go_simp⟩) (by assumption) ?_
                  change wpAnyH _ _ _ _ _ _ _ (Act.put _ (some 62) _) _
                  try simp only [Act.put, List.setIfInBounds_toArray, List.set_cons_zero, List.set_cons_succ]
                  refine wpAnyH_take (i := 16) (v := .slice a c c) rfl (by kernel_rfl) (by kernel_rfl) (by kernel_rfl) (fun _ _ _ h => h) (Or.inl ⟨by kernel_rfl, fun w hSw => by go_simp⟩) (by assumption) ?_
                  change wpAnyH _ _ _ _ _ _ _ (Act.put _ (some 63) _) _
                  try simp only [Act.put, List.setIfInBounds_toArray, List.set_cons_zero, List.set_cons_succ]
                  refine wpAnyH_take (i := 17) (v := .int .i64 c) rfl (by kernel_rfl) (by kernel_rfl) (by kernel_rfl) (fun _ _ _ h => h) (Or.inl ⟨by kernel_rfl, fun w hSw => by go_simp⟩) (by assumption) ?_
                  change wpAnyH _ _ _ _ _ _ _ (Act.put _ (some 64) _) _
                  try simp only [Act.put, List.setIfInBounds_toArray, List.set_cons_zero, List.set_cons_succ]
                  refine wpAnyH_take (i := 18) (v := .slice a 0 0) rfl (by kernel_rfl) (by kernel_rfl) (by kernel_rfl) (fun _ _ _ h => h) (Or.inl ⟨by kernel_rfl, fun w hSw => by go_simp⟩) (by assumption) ?_
                  change wpAnyH _ _ _ _ _ _ _ (Act.put _ (some 65) _) _
                  try simp only [Act.put, List.setIfInBounds_toArray, List.set_cons_zero, List.set_cons_succ]
                  refine wpAnyH_take (i := 19) (v := .agg (idL g).toArray) rfl (by kernel_rfl) (by kernel_rfl) (by kernel_rfl) (fun _ _ _ h => h) ?hy19 (by assumption) ?_
                  case hy19 =>
                    refine yieldsIf_load_mid ?hw19 25 _ rfl B (0) ?hx19 (idL g) _ (fun w hw => rangeAt_below LB.out hw.b) Try.underlying25 rfl (szL25 g)
                    case hw19 => kernel_rfl
                    case hx19 => kernel_rfl
                  change wpAnyH _ _ _ _ _ _ _ (Act.put _ (some 66) _) _
                  try simp only [Act.put, List.setIfInBounds_toArray, List.set_cons_zero, List.set_cons_succ]
                  refine wpAnyH_ready (rs := [20]) (by kernel_rfl) (by simp) ?_
                  refine AllReadyH.cons (o := _) rfl (fun K hK => ?_) AllReadyH.nil
                  rw [if_pos (by kernel_rfl)]
                  go_simp
                  refine (M3.out _ (by assumption)).mono ?_
                  rintro e w11 ⟨rfl, hw11⟩
                  refine hK.out _ _ hw11 (fun hHeldw11 => ?_)
                  clear hK K
                  try simp only [Act.put, List.setIfInBounds_toArray, List.set_cons_zero, List.set_cons_succ]
                  refine wpAnyH_take (i := 21) (v := .bool true) rfl (by kernel_rfl) (by kernel_rfl) (by kernel_rfl) (fun _ _ _ h => h) (Or.inl ⟨by kernel_rfl, fun w hSw => by go_simp⟩) (by assumption) ?_
                  change wpAnyH _ _ _ _ _ _ _ (Act.put _ (some 68) _) _
                  try simp only [Act.put, List.setIfInBounds_toArray, List.set_cons_zero, List.set_cons_succ]
                  refine wpAnyH_take (i := 22) (v := .bool true) rfl (by kernel_rfl) (by kernel_rfl) (by kernel_rfl) (fun _ _ _ h => h) (Or.inl ⟨by kernel_rfl, fun w hSw => by go_simp⟩) (by assumption) ?_
                  change wpAnyH _ _ _ _ _ _ _ (Act.put _ (some 69) _) _
                  try simp only [Act.put, List.setIfInBounds_toArray, List.set_cons_zero, List.set_cons_succ]
                  refine wpAnyH_take (i := 23) (v := .bool true) rfl (by kernel_rfl) (by kernel_rfl) (by kernel_rfl) (fun _ _ _ h => h) (Or.inl ⟨by kernel_rfl, fun w hSw => by go_simp⟩) (by assumption) ?_
                  change wpAnyH _ _ _ _ _ _ _ (Act.put _ (some 70) _) _
                  try simp only [Act.put, List.setIfInBounds_toArray, List.set_cons_zero, List.set_cons_succ]
                  refine wpAnyH_take (i := 24) (v := .bool false) rfl (by kernel_rfl) (by kernel_rfl) (by kernel_rfl) (fun _ _ _ h => h) (Or.inl ⟨by kernel_rfl, fun w hSw => by go_simp⟩) (by assumption) ?_
                  change wpAnyH _ _ _ _ _ _ _ (Act.put _ (some 71) _) _
                  try simp only [Act.put, List.setIfInBounds_toArray, List.set_cons_zero, List.set_cons_succ]
                  refine wpAnyH_take (i := 25) (v := .bool false) rfl (by kernel_rfl) (by kernel_rfl) (by kernel_rfl) (fun _ _ _ h => h) (Or.inl ⟨by kernel_rfl, fun w hSw => by go_simp⟩) (by assumption) ?_
                  change wpAnyH _ _ _ _ _ _ _ (Act.put _ (some 72) _) _
                  try simp only [Act.put, List.setIfInBounds_toArray, List.set_cons_zero, List.set_cons_succ]
                  refine wpAnyH_take (i := 26) (v := .bool false) rfl (by kernel_rfl) (by kernel_rfl) (by kernel_rfl) (fun _ _ _ h => h) (Or.inl ⟨by kernel_rfl, fun w hSw => by go_simp⟩) (by assumption) ?_
                  change wpAnyH _ _ _ _ _ _ _ (Act.put _ (some 73) _) _
                  try simp only [Act.put, List.setIfInBounds_toArray, List.set_cons_zero, List.set_cons_succ]
                  refine wpAnyH_take (i := 27) (v := .bool false) rfl (by kernel_rfl) (by kernel_rfl) (by kernel_rfl) (fun _ _ _ h => h) (Or.inl ⟨by kernel_rfl, fun w hSw => by go_simp⟩) (by assumption) ?_
                  change wpAnyH _ _ _ _ _ _ _ (Act.put _ (some 74) _) _
                  try simp only [Act.put, List.setIfInBounds_toArray, List.set_cons_zero, List.set_cons_succ]
                  refine wpAnyH_take (i := 28) (v := .bool false) rfl (by kernel_rfl) (by kernel_rfl) (by kernel_rfl) (fun _ _ _ h => h) (Or.inl ⟨by kernel_rfl, fun w hSw => by go_simp⟩) (by assumption) ?_
                  change wpAnyH _ _ _ _ _ _ _ (Act.put _ (some 75) _) _
                  try simp only [Act.put, List.setIfInBounds_toArray, List.set_cons_zero, List.set_cons_succ]
                  refine wpAnyH_take (i := 29) (v := .bool true) rfl (by kernel_rfl) (by kernel_rfl) (by kernel_rfl) (fun _ _ _ h => h) (Or.inl ⟨by kernel_rfl, fun w hSw => by go_simp⟩) (by assumption) ?_
                  change wpAnyH _ _ _ _ _ _ _ (Act.put _ (some 76) _) _
                  try simp only [Act.put, List.setIfInBounds_toArray, List.set_cons_zero, List.set_cons_succ]
                  refine wpAnyH_take (i := 30) (v := .bool true) rfl (by kernel_rfl) (by kernel_rfl) (by kernel_rfl) (fun _ _ _ h => h) (Or.inl ⟨by kernel_rfl, fun w hSw => by go_simp⟩) (by assumption) ?_
                  change wpAnyH _ _ _ _ _ _ _ (Act.put _ (some 77) _) _
                  try simp only [Act.put, List.setIfInBounds_toArray, List.set_cons_zero, List.set_cons_succ]
                  refine wpAnyH_take (i := 31) (v := .bool true) rfl (by kernel_rfl) (by kernel_rfl) (by kernel_rfl) (fun _ _ _ h => h) (Or.inl ⟨by kernel_rfl, fun w hSw => by go_simp⟩) (by assumption) ?_
                  change wpAnyH _ _ _ _ _ _ _ (Act.put _ (some 6) _) _
                  try simp only [Act.put, List.setIfInBounds_toArray, List.set_cons_zero, List.set_cons_succ]
                  refine wpAnyH_done (by kernel_rfl) ?_ _
                  go_wp2_with fail
                  go_ret
                  exact ⟨rfl, bthen BW.out hw11.b⟩
              · obtain ⟨b, o, rfl⟩ := hsp (by omega)
                have M3 : Hid (∀ W, Keeps w5 W → Calls Try.prog 13 #[.slice (some ⟨b, o + q * 20, none⟩) 0 (c - q), .agg (idL g).toArray] W fun e w' => e = .returned (.bool false) ∧ Keeps w5 w') := fun W hW =>
                  (idsMember_calls _ 0 (c - q) F g W (by omega) (fun h => absurd h (Nat.lt_irrefl _)) HF.out HGG.out).mono fun e w' h => ⟨h.1, ⟨bthen hW.b h.2⟩⟩
                cases vL with
                | true =>
                  refine wp_region_held_drew (S := fun w' => Keeps w5 w') (by kernel_rfl) ⟨K8.out.b.drew⟩ (fun hHeld => ?_)
                  refine wpAnyH_take (i := 0) (v := .bool true) rfl (by kernel_rfl) (by kernel_rfl) (by kernel_rfl) (fun _ _ _ h => h) (Or.inl ⟨by kernel_rfl, fun w hSw => by go_simp⟩) (by assumption) ?_
                  change wpAnyH _ _ _ _ _ _ _ (Act.put _ (some 47) _) _
                  try simp only [Act.put, List.setIfInBounds_toArray, List.set_cons_zero, List.set_cons_succ]
                  refine wpAnyH_take (i := 1) (v := .slice (some ⟨b, o, none⟩) q c) rfl (by kernel_rfl) (by kernel_rfl) (by kernel_rfl) (fun _ _ _ h => h) (Or.inl ⟨by kernel_rfl, fun w hSw => by go_simp⟩) (by assumption) ?_
                  change wpAnyH _ _ _ _ _ _ _ (Act.put _ (some 48) _) _
                  try simp only [Act.put, List.setIfInBounds_toArray, List.set_cons_zero, List.set_cons_succ]
                  refine wpAnyH_take (i := 2) (v := .agg (idL g).toArray) rfl (by kernel_rfl) (by kernel_rfl) (by kernel_rfl) (fun _ _ _ h => h) ?hy2 (by assumption) ?_
                  case hy2 =>
                    refine yieldsIf_load_mid ?hw2 25 _ rfl B (0) ?hx2 (idL g) _ (fun w hw => rangeAt_below LB.out hw.b) Try.underlying25 rfl (szL25 g)
                    case hw2 => kernel_rfl
                    case hx2 => kernel_rfl
                  change wpAnyH _ _ _ _ _ _ _ (Act.put _ (some 49) _) _
                  try simp only [Act.put, List.setIfInBounds_toArray, List.set_cons_zero, List.set_cons_succ]
                  refine wpAnyH_ready (rs := [3]) (by kernel_rfl) (by simp) ?_
                  refine AllReadyH.cons (o := _) rfl (fun K hK => ?_) AllReadyH.nil
                  rw [if_pos (by kernel_rfl)]
                  go_simp
                  refine (M1.out _ (by assumption)).mono ?_
                  rintro e w9 ⟨rfl, hw9⟩
                  refine hK.out _ _ hw9 (fun hHeldw9 => ?_)
                  clear hK K
                  try simp only [Act.put, List.setIfInBounds_toArray, List.set_cons_zero, List.set_cons_succ]
                  refine wpAnyH_take (i := 4) (v := .bool true) rfl (by kernel_rfl) (by kernel_rfl) (by kernel_rfl) (fun _ _ _ h => h) (Or.inl ⟨by kernel_rfl, fun w hSw => by go_simp⟩) (by assumption) ?_
                  change wpAnyH _ _ _ _ _ _ _ (Act.put _ (some 51) _) _
                  try simp only [Act.put, List.setIfInBounds_toArray, List.set_cons_zero, List.set_cons_succ]
                  refine wpAnyH_take (i := 5) (v := .bool true) rfl (by kernel_rfl) (by kernel_rfl) (by kernel_rfl) (fun _ _ _ h => h) (Or.inl ⟨by kernel_rfl, fun w hSw => by go_simp⟩) (by assumption) ?_
                  change wpAnyH _ _ _ _ _ _ _ (Act.put _ (some 52) _) _
                  try simp only [Act.put, List.setIfInBounds_toArray, List.set_cons_zero, List.set_cons_succ]
                  refine wpAnyH_take (i := 6) (v := .bool true) rfl (by kernel_rfl) (by kernel_rfl) (by kernel_rfl) (fun _ _ _ h => h) (Or.inl ⟨by kernel_rfl, fun w hSw => by go_simp⟩) (by assumption) ?_
                  change wpAnyH _ _ _ _ _ _ _ (Act.put _ (some 53) _) _
                  try simp only [Act.put, List.setIfInBounds_toArray, List.set_cons_zero, List.set_cons_succ]
                  refine wpAnyH_take (i := 7) (v := .slice (some ⟨b, o, none⟩) q c) rfl (by kernel_rfl) (by kernel_rfl) (by kernel_rfl) (fun _ _ _ h => h) (Or.inl ⟨by kernel_rfl, fun w hSw => by go_simp⟩) (by assumption) ?_
                  change wpAnyH _ _ _ _ _ _ _ (Act.put _ (some 54) _) _
                  try simp only [Act.put, List.setIfInBounds_toArray, List.set_cons_zero, List.set_cons_succ]
                  refine wpAnyH_take (i := 8) (v := .int .i64 q) rfl (by kernel_rfl) (by kernel_rfl) (by kernel_rfl) (fun _ _ _ h => h) (Or.inl ⟨by kernel_rfl, fun w hSw => by go_simp⟩) (by assumption) ?_
                  change wpAnyH _ _ _ _ _ _ _ (Act.put _ (some 55) _) _
                  try simp only [Act.put, List.setIfInBounds_toArray, List.set_cons_zero, List.set_cons_succ]
                  refine wpAnyH_take (i := 9) (v := .slice (some ⟨b, o, none⟩) q c) rfl (by kernel_rfl) (by kernel_rfl) (by kernel_rfl) (fun _ _ _ h => h) (Or.inl ⟨by kernel_rfl, fun w hSw => by go_simp⟩) (by assumption) ?_
                  change wpAnyH _ _ _ _ _ _ _ (Act.put _ (some 56) _) _
                  try simp only [Act.put, List.setIfInBounds_toArray, List.set_cons_zero, List.set_cons_succ]
                  refine wpAnyH_take (i := 10) (v := .agg (idL g).toArray) rfl (by kernel_rfl) (by kernel_rfl) (by kernel_rfl) (fun _ _ _ h => h) ?hy10 (by assumption) ?_
                  case hy10 =>
                    refine yieldsIf_load_mid ?hw10 25 _ rfl B (0) ?hx10 (idL g) _ (fun w hw => rangeAt_below LB.out hw.b) Try.underlying25 rfl (szL25 g)
                    case hw10 => kernel_rfl
                    case hx10 => kernel_rfl
                  change wpAnyH _ _ _ _ _ _ _ (Act.put _ (some 57) _) _
                  try simp only [Act.put, List.setIfInBounds_toArray, List.set_cons_zero, List.set_cons_succ]
                  refine wpAnyH_ready (rs := [11]) (by kernel_rfl) (by simp) ?_
                  refine AllReadyH.cons (o := _) rfl (fun K hK => ?_) AllReadyH.nil
                  rw [if_pos (by kernel_rfl)]
                  go_simp
                  refine (M1.out _ (by assumption)).mono ?_
                  rintro e w10 ⟨rfl, hw10⟩
                  refine hK.out _ _ hw10 (fun hHeldw10 => ?_)
                  clear hK K
                  try simp only [Act.put, List.setIfInBounds_toArray, List.set_cons_zero, List.set_cons_succ]
                  refine wpAnyH_take (i := 12) (v := .bool true) rfl (by kernel_rfl) (by kernel_rfl) (by kernel_rfl) (fun _ _ _ h => h) (Or.inl ⟨by kernel_rfl, fun w hSw => by go_simp⟩) (by assumption) ?_
                  change wpAnyH _ _ _ _ _ _ _ (Act.put _ (some 59) _) _
                  try simp only [Act.put, List.setIfInBounds_toArray, List.set_cons_zero, List.set_cons_succ]
                  refine wpAnyH_take (i := 13) (v := .bool true) rfl (by kernel_rfl) (by kernel_rfl) (by kernel_rfl) (fun _ _ _ h => h) (Or.inl ⟨by kernel_rfl, fun w hSw => by go_simp⟩) (by assumption) ?_
                  change wpAnyH _ _ _ _ _ _ _ (Act.put _ (some 60) _) _
                  try simp only [Act.put, List.setIfInBounds_toArray, List.set_cons_zero, List.set_cons_succ]
                  refine wpAnyH_take (i := 14) (v := .bool true) rfl (by kernel_rfl) (by kernel_rfl) (by kernel_rfl) (fun _ _ _ h => h) (Or.inl ⟨by kernel_rfl, fun w hSw => by go_simp⟩) (by assumption) ?_
                  change wpAnyH _ _ _ _ _ _ _ (Act.put _ (some 61) _) _
                  try simp only [Act.put, List.setIfInBounds_toArray, List.set_cons_zero, List.set_cons_succ]
                  refine wpAnyH_take (i := 15) (v := .bool false) rfl (by kernel_rfl) (by kernel_rfl) (by kernel_rfl) (fun _ _ _ h => h) (Or.inl ⟨by kernel_rfl, fun w hSw => by go_simp⟩) (by assumption) ?_
                  change wpAnyH _ _ _ _ _ _ _ (Act.put _ (some 62) _) _
                  try simp only [Act.put, List.setIfInBounds_toArray, List.set_cons_zero, List.set_cons_succ]
                  refine wpAnyH_take (i := 16) (v := .slice (some ⟨b, o, none⟩) q c) rfl (by kernel_rfl) (by kernel_rfl) (by kernel_rfl) (fun _ _ _ h => h) (Or.inl ⟨by kernel_rfl, fun w hSw => by go_simp⟩) (by assumption) ?_
                  change wpAnyH _ _ _ _ _ _ _ (Act.put _ (some 63) _) _
                  try simp only [Act.put, List.setIfInBounds_toArray, List.set_cons_zero, List.set_cons_succ]
                  refine wpAnyH_take (i := 17) (v := .int .i64 q) rfl (by kernel_rfl) (by kernel_rfl) (by kernel_rfl) (fun _ _ _ h => h) (Or.inl ⟨by kernel_rfl, fun w hSw => by go_simp⟩) (by assumption) ?_
                  change wpAnyH _ _ _ _ _ _ _ (Act.put _ (some 64) _) _
                  try simp only [Act.put, List.setIfInBounds_toArray, List.set_cons_zero, List.set_cons_succ]
                  refine wpAnyH_take (i := 18) (v := .slice (some ⟨b, o + q * 20, none⟩) 0 (c - q)) rfl (by kernel_rfl) (by kernel_rfl) (by kernel_rfl) (fun _ _ _ h => h) (Or.inl ⟨by kernel_rfl, fun w hSw => by go_simp⟩) (by assumption) ?_
                  change wpAnyH _ _ _ _ _ _ _ (Act.put _ (some 65) _) _
                  try simp only [Act.put, List.setIfInBounds_toArray, List.set_cons_zero, List.set_cons_succ]
                  refine wpAnyH_take (i := 19) (v := .agg (idL g).toArray) rfl (by kernel_rfl) (by kernel_rfl) (by kernel_rfl) (fun _ _ _ h => h) ?hy19 (by assumption) ?_
                  case hy19 =>
                    refine yieldsIf_load_mid ?hw19 25 _ rfl B (0) ?hx19 (idL g) _ (fun w hw => rangeAt_below LB.out hw.b) Try.underlying25 rfl (szL25 g)
                    case hw19 => kernel_rfl
                    case hx19 => kernel_rfl
                  change wpAnyH _ _ _ _ _ _ _ (Act.put _ (some 66) _) _
                  try simp only [Act.put, List.setIfInBounds_toArray, List.set_cons_zero, List.set_cons_succ]
                  refine wpAnyH_ready (rs := [20]) (by kernel_rfl) (by simp) ?_
                  refine AllReadyH.cons (o := _) rfl (fun K hK => ?_) AllReadyH.nil
                  rw [if_pos (by kernel_rfl)]
                  go_simp
                  refine (M3.out _ (by assumption)).mono ?_
                  rintro e w11 ⟨rfl, hw11⟩
                  refine hK.out _ _ hw11 (fun hHeldw11 => ?_)
                  clear hK K
                  try simp only [Act.put, List.setIfInBounds_toArray, List.set_cons_zero, List.set_cons_succ]
                  refine wpAnyH_take (i := 21) (v := .bool true) rfl (by kernel_rfl) (by kernel_rfl) (by kernel_rfl) (fun _ _ _ h => h) (Or.inl ⟨by kernel_rfl, fun w hSw => by go_simp⟩) (by assumption) ?_
                  change wpAnyH _ _ _ _ _ _ _ (Act.put _ (some 68) _) _
                  try simp only [Act.put, List.setIfInBounds_toArray, List.set_cons_zero, List.set_cons_succ]
                  refine wpAnyH_take (i := 22) (v := .bool true) rfl (by kernel_rfl) (by kernel_rfl) (by kernel_rfl) (fun _ _ _ h => h) (Or.inl ⟨by kernel_rfl, fun w hSw => by go_simp⟩) (by assumption) ?_
                  change wpAnyH _ _ _ _ _ _ _ (Act.put _ (some 69) _) _
                  try simp only [Act.put, List.setIfInBounds_toArray, List.set_cons_zero, List.set_cons_succ]
                  refine wpAnyH_take (i := 23) (v := .bool true) rfl (by kernel_rfl) (by kernel_rfl) (by kernel_rfl) (fun _ _ _ h => h) (Or.inl ⟨by kernel_rfl, fun w hSw => by go_simp⟩) (by assumption) ?_
                  change wpAnyH _ _ _ _ _ _ _ (Act.put _ (some 70) _) _
                  try simp only [Act.put, List.setIfInBounds_toArray, List.set_cons_zero, List.set_cons_succ]
                  refine wpAnyH_take (i := 24) (v := .bool true) rfl (by kernel_rfl) (by kernel_rfl) (by kernel_rfl) (fun _ _ _ h => h) (Or.inl ⟨by kernel_rfl, fun w hSw => by go_simp⟩) (by assumption) ?_
                  change wpAnyH _ _ _ _ _ _ _ (Act.put _ (some 71) _) _
                  try simp only [Act.put, List.setIfInBounds_toArray, List.set_cons_zero, List.set_cons_succ]
                  refine wpAnyH_take (i := 25) (v := .bool true) rfl (by kernel_rfl) (by kernel_rfl) (by kernel_rfl) (fun _ _ _ h => h) (Or.inl ⟨by kernel_rfl, fun w hSw => by go_simp⟩) (by assumption) ?_
                  change wpAnyH _ _ _ _ _ _ _ (Act.put _ (some 72) _) _
                  try simp only [Act.put, List.setIfInBounds_toArray, List.set_cons_zero, List.set_cons_succ]
                  refine wpAnyH_take (i := 26) (v := .bool true) rfl (by kernel_rfl) (by kernel_rfl) (by kernel_rfl) (fun _ _ _ h => h) (Or.inl ⟨by kernel_rfl, fun w hSw => by go_simp⟩) (by assumption) ?_
                  change wpAnyH _ _ _ _ _ _ _ (Act.put _ (some 73) _) _
                  try simp only [Act.put, List.setIfInBounds_toArray, List.set_cons_zero, List.set_cons_succ]
                  refine wpAnyH_take (i := 27) (v := undef) rfl (by kernel_rfl) (by kernel_rfl) (by kernel_rfl) (fun _ _ _ h => h) (Or.inr ⟨by kernel_rfl, rfl⟩) (by assumption) ?_
                  change wpAnyH _ _ _ _ _ _ _ (Act.put _ (some 74) _) _
                  try simp only [Act.put, List.setIfInBounds_toArray, List.set_cons_zero, List.set_cons_succ]
                  refine wpAnyH_take (i := 28) (v := .bool true) rfl (by kernel_rfl) (by kernel_rfl) (by kernel_rfl) (fun _ _ _ h => h) (Or.inl ⟨by kernel_rfl, fun w hSw => by go_simp⟩) (by assumption) ?_
                  change wpAnyH _ _ _ _ _ _ _ (Act.put _ (some 75) _) _
                  try simp only [Act.put, List.setIfInBounds_toArray, List.set_cons_zero, List.set_cons_succ]
                  refine wpAnyH_take (i := 29) (v := .bool true) rfl (by kernel_rfl) (by kernel_rfl) (by kernel_rfl) (fun _ _ _ h => h) (Or.inl ⟨by kernel_rfl, fun w hSw => by go_simp⟩) (by assumption) ?_
                  change wpAnyH _ _ _ _ _ _ _ (Act.put _ (some 76) _) _
                  try simp only [Act.put, List.setIfInBounds_toArray, List.set_cons_zero, List.set_cons_succ]
                  refine wpAnyH_take (i := 30) (v := .bool true) rfl (by kernel_rfl) (by kernel_rfl) (by kernel_rfl) (fun _ _ _ h => h) (Or.inl ⟨by kernel_rfl, fun w hSw => by go_simp⟩) (by assumption) ?_
                  change wpAnyH _ _ _ _ _ _ _ (Act.put _ (some 77) _) _
                  try simp only [Act.put, List.setIfInBounds_toArray, List.set_cons_zero, List.set_cons_succ]
                  refine wpAnyH_take (i := 31) (v := .bool true) rfl (by kernel_rfl) (by kernel_rfl) (by kernel_rfl) (fun _ _ _ h => h) (Or.inl ⟨by kernel_rfl, fun w hSw => by go_simp⟩) (by assumption) ?_
                  change wpAnyH _ _ _ _ _ _ _ (Act.put _ (some 6) _) _
                  try simp only [Act.put, List.setIfInBounds_toArray, List.set_cons_zero, List.set_cons_succ]
                  refine wpAnyH_done (by kernel_rfl) ?_ _
                  go_wp2_with fail
                  go_ret
                  exact ⟨rfl, bthen BW.out hw11.b⟩
                | false =>
                  refine wp_region_held_drew (S := fun w' => Keeps w5 w') (by kernel_rfl) ⟨K8.out.b.drew⟩ (fun hHeld => ?_)
                  refine wpAnyH_take (i := 0) (v := .bool false) rfl (by kernel_rfl) (by kernel_rfl) (by kernel_rfl) (fun _ _ _ h => h) (Or.inl ⟨by kernel_rfl, fun w hSw => by go_simp⟩) (by assumption) ?_
                  change wpAnyH _ _ _ _ _ _ _ (Act.put _ (some 47) _) _
                  try simp only [Act.put, List.setIfInBounds_toArray, List.set_cons_zero, List.set_cons_succ]
                  refine wpAnyH_take (i := 1) (v := .slice (some ⟨b, o, none⟩) q c) rfl (by kernel_rfl) (by kernel_rfl) (by kernel_rfl) (fun _ _ _ h => h) (Or.inl ⟨by kernel_rfl, fun w hSw => by go_simp⟩) (by assumption) ?_
                  change wpAnyH _ _ _ _ _ _ _ (Act.put _ (some 48) _) _
                  try simp only [Act.put, List.setIfInBounds_toArray, List.set_cons_zero, List.set_cons_succ]
                  refine wpAnyH_take (i := 2) (v := .agg (idL g).toArray) rfl (by kernel_rfl) (by kernel_rfl) (by kernel_rfl) (fun _ _ _ h => h) ?hy2 (by assumption) ?_
                  case hy2 =>
                    refine yieldsIf_load_mid ?hw2 25 _ rfl B (0) ?hx2 (idL g) _ (fun w hw => rangeAt_below LB.out hw.b) Try.underlying25 rfl (szL25 g)
                    case hw2 => kernel_rfl
                    case hx2 => kernel_rfl
                  change wpAnyH _ _ _ _ _ _ _ (Act.put _ (some 49) _) _
                  try simp only [Act.put, List.setIfInBounds_toArray, List.set_cons_zero, List.set_cons_succ]
                  refine wpAnyH_ready (rs := [3]) (by kernel_rfl) (by simp) ?_
                  refine AllReadyH.cons (o := _) rfl (fun K hK => ?_) AllReadyH.nil
                  rw [if_pos (by kernel_rfl)]
                  go_simp
                  refine (M1.out _ (by assumption)).mono ?_
                  rintro e w9 ⟨rfl, hw9⟩
                  refine hK.out _ _ hw9 (fun hHeldw9 => ?_)
                  clear hK K
                  try simp only [Act.put, List.setIfInBounds_toArray, List.set_cons_zero, List.set_cons_succ]
                  refine wpAnyH_take (i := 4) (v := .bool true) rfl (by kernel_rfl) (by kernel_rfl) (by kernel_rfl) (fun _ _ _ h => h) (Or.inl ⟨by kernel_rfl, fun w hSw => by go_simp⟩) (by assumption) ?_
                  change wpAnyH _ _ _ _ _ _ _ (Act.put _ (some 51) _) _
                  try simp only [Act.put, List.setIfInBounds_toArray, List.set_cons_zero, List.set_cons_succ]
                  refine wpAnyH_take (i := 5) (v := .bool true) rfl (by kernel_rfl) (by kernel_rfl) (by kernel_rfl) (fun _ _ _ h => h) (Or.inl ⟨by kernel_rfl, fun w hSw => by go_simp⟩) (by assumption) ?_
                  change wpAnyH _ _ _ _ _ _ _ (Act.put _ (some 52) _) _
                  try simp only [Act.put, List.setIfInBounds_toArray, List.set_cons_zero, List.set_cons_succ]
                  refine wpAnyH_take (i := 6) (v := .bool false) rfl (by kernel_rfl) (by kernel_rfl) (by kernel_rfl) (fun _ _ _ h => h) (Or.inl ⟨by kernel_rfl, fun w hSw => by go_simp⟩) (by assumption) ?_
                  change wpAnyH _ _ _ _ _ _ _ (Act.put _ (some 53) _) _
                  try simp only [Act.put, List.setIfInBounds_toArray, List.set_cons_zero, List.set_cons_succ]
                  refine wpAnyH_take (i := 7) (v := .slice (some ⟨b, o, none⟩) q c) rfl (by kernel_rfl) (by kernel_rfl) (by kernel_rfl) (fun _ _ _ h => h) (Or.inl ⟨by kernel_rfl, fun w hSw => by go_simp⟩) (by assumption) ?_
                  change wpAnyH _ _ _ _ _ _ _ (Act.put _ (some 54) _) _
                  try simp only [Act.put, List.setIfInBounds_toArray, List.set_cons_zero, List.set_cons_succ]
                  refine wpAnyH_take (i := 8) (v := .int .i64 q) rfl (by kernel_rfl) (by kernel_rfl) (by kernel_rfl) (fun _ _ _ h => h) (Or.inl ⟨by kernel_rfl, fun w hSw => by go_simp⟩) (by assumption) ?_
                  change wpAnyH _ _ _ _ _ _ _ (Act.put _ (some 55) _) _
                  try simp only [Act.put, List.setIfInBounds_toArray, List.set_cons_zero, List.set_cons_succ]
                  refine wpAnyH_take (i := 9) (v := .slice (some ⟨b, o, none⟩) q c) rfl (by kernel_rfl) (by kernel_rfl) (by kernel_rfl) (fun _ _ _ h => h) (Or.inl ⟨by kernel_rfl, fun w hSw => by go_simp⟩) (by assumption) ?_
                  change wpAnyH _ _ _ _ _ _ _ (Act.put _ (some 56) _) _
                  try simp only [Act.put, List.setIfInBounds_toArray, List.set_cons_zero, List.set_cons_succ]
                  refine wpAnyH_take (i := 10) (v := .agg (idL g).toArray) rfl (by kernel_rfl) (by kernel_rfl) (by kernel_rfl) (fun _ _ _ h => h) ?hy10 (by assumption) ?_
                  case hy10 =>
                    refine yieldsIf_load_mid ?hw10 25 _ rfl B (0) ?hx10 (idL g) _ (fun w hw => rangeAt_below LB.out hw.b) Try.underlying25 rfl (szL25 g)
                    case hw10 => kernel_rfl
                    case hx10 => kernel_rfl
                  change wpAnyH _ _ _ _ _ _ _ (Act.put _ (some 57) _) _
                  try simp only [Act.put, List.setIfInBounds_toArray, List.set_cons_zero, List.set_cons_succ]
                  refine wpAnyH_ready (rs := [11]) (by kernel_rfl) (by simp) ?_
                  refine AllReadyH.cons (o := _) rfl (fun K hK => ?_) AllReadyH.nil
                  rw [if_pos (by kernel_rfl)]
                  go_simp
                  refine (M1.out _ (by assumption)).mono ?_
                  rintro e w10 ⟨rfl, hw10⟩
                  refine hK.out _ _ hw10 (fun hHeldw10 => ?_)
                  clear hK K
                  try simp only [Act.put, List.setIfInBounds_toArray, List.set_cons_zero, List.set_cons_succ]
                  refine wpAnyH_take (i := 12) (v := .bool true) rfl (by kernel_rfl) (by kernel_rfl) (by kernel_rfl) (fun _ _ _ h => h) (Or.inl ⟨by kernel_rfl, fun w hSw => by go_simp⟩) (by assumption) ?_
                  change wpAnyH _ _ _ _ _ _ _ (Act.put _ (some 59) _) _
                  try simp only [Act.put, List.setIfInBounds_toArray, List.set_cons_zero, List.set_cons_succ]
                  refine wpAnyH_take (i := 13) (v := .bool true) rfl (by kernel_rfl) (by kernel_rfl) (by kernel_rfl) (fun _ _ _ h => h) (Or.inl ⟨by kernel_rfl, fun w hSw => by go_simp⟩) (by assumption) ?_
                  change wpAnyH _ _ _ _ _ _ _ (Act.put _ (some 60) _) _
                  try simp only [Act.put, List.setIfInBounds_toArray, List.set_cons_zero, List.set_cons_succ]
                  refine wpAnyH_take (i := 14) (v := .bool true) rfl (by kernel_rfl) (by kernel_rfl) (by kernel_rfl) (fun _ _ _ h => h) (Or.inl ⟨by kernel_rfl, fun w hSw => by go_simp⟩) (by assumption) ?_
                  change wpAnyH _ _ _ _ _ _ _ (Act.put _ (some 61) _) _
                  try simp only [Act.put, List.setIfInBounds_toArray, List.set_cons_zero, List.set_cons_succ]
                  refine wpAnyH_take (i := 15) (v := .bool false) rfl (by kernel_rfl) (by kernel_rfl) (by kernel_rfl) (fun _ _ _ h => h) (Or.inl ⟨by kernel_rfl, fun w hSw => by go_simp⟩) (by assumption) ?_
                  change wpAnyH _ _ _ _ _ _ _ (Act.put _ (some 62) _) _
                  try simp only [Act.put, List.setIfInBounds_toArray, List.set_cons_zero, List.set_cons_succ]
                  refine wpAnyH_take (i := 16) (v := .slice (some ⟨b, o, none⟩) q c) rfl (by kernel_rfl) (by kernel_rfl) (by kernel_rfl) (fun _ _ _ h => h) (Or.inl ⟨by kernel_rfl, fun w hSw => by go_simp⟩) (by assumption) ?_
                  change wpAnyH _ _ _ _ _ _ _ (Act.put _ (some 63) _) _
                  try simp only [Act.put, List.setIfInBounds_toArray, List.set_cons_zero, List.set_cons_succ]
                  refine wpAnyH_take (i := 17) (v := .int .i64 q) rfl (by kernel_rfl) (by kernel_rfl) (by kernel_rfl) (fun _ _ _ h => h) (Or.inl ⟨by kernel_rfl, fun w hSw => by go_simp⟩) (by assumption) ?_
                  change wpAnyH _ _ _ _ _ _ _ (Act.put _ (some 64) _) _
                  try simp only [Act.put, List.setIfInBounds_toArray, List.set_cons_zero, List.set_cons_succ]
                  refine wpAnyH_take (i := 18) (v := .slice (some ⟨b, o + q * 20, none⟩) 0 (c - q)) rfl (by kernel_rfl) (by kernel_rfl) (by kernel_rfl) (fun _ _ _ h => h) (Or.inl ⟨by kernel_rfl, fun w hSw => by go_simp⟩) (by assumption) ?_
                  change wpAnyH _ _ _ _ _ _ _ (Act.put _ (some 65) _) _
                  try simp only [Act.put, List.setIfInBounds_toArray, List.set_cons_zero, List.set_cons_succ]
                  refine wpAnyH_take (i := 19) (v := .agg (idL g).toArray) rfl (by kernel_rfl) (by kernel_rfl) (by kernel_rfl) (fun _ _ _ h => h) ?hy19 (by assumption) ?_
                  case hy19 =>
                    refine yieldsIf_load_mid ?hw19 25 _ rfl B (0) ?hx19 (idL g) _ (fun w hw => rangeAt_below LB.out hw.b) Try.underlying25 rfl (szL25 g)
                    case hw19 => kernel_rfl
                    case hx19 => kernel_rfl
                  change wpAnyH _ _ _ _ _ _ _ (Act.put _ (some 66) _) _
                  try simp only [Act.put, List.setIfInBounds_toArray, List.set_cons_zero, List.set_cons_succ]
                  refine wpAnyH_ready (rs := [20]) (by kernel_rfl) (by simp) ?_
                  refine AllReadyH.cons (o := _) rfl (fun K hK => ?_) AllReadyH.nil
                  rw [if_pos (by kernel_rfl)]
                  go_simp
                  refine (M3.out _ (by assumption)).mono ?_
                  rintro e w11 ⟨rfl, hw11⟩
                  refine hK.out _ _ hw11 (fun hHeldw11 => ?_)
                  clear hK K
                  try simp only [Act.put, List.setIfInBounds_toArray, List.set_cons_zero, List.set_cons_succ]
                  refine wpAnyH_take (i := 21) (v := .bool true) rfl (by kernel_rfl) (by kernel_rfl) (by kernel_rfl) (fun _ _ _ h => h) (Or.inl ⟨by kernel_rfl, fun w hSw => by go_simp⟩) (by assumption) ?_
                  change wpAnyH _ _ _ _ _ _ _ (Act.put _ (some 68) _) _
                  try simp only [Act.put, List.setIfInBounds_toArray, List.set_cons_zero, List.set_cons_succ]
                  refine wpAnyH_take (i := 22) (v := .bool true) rfl (by kernel_rfl) (by kernel_rfl) (by kernel_rfl) (fun _ _ _ h => h) (Or.inl ⟨by kernel_rfl, fun w hSw => by go_simp⟩) (by assumption) ?_
                  change wpAnyH _ _ _ _ _ _ _ (Act.put _ (some 69) _) _
                  try simp only [Act.put, List.setIfInBounds_toArray, List.set_cons_zero, List.set_cons_succ]
                  refine wpAnyH_take (i := 23) (v := .bool true) rfl (by kernel_rfl) (by kernel_rfl) (by kernel_rfl) (fun _ _ _ h => h) (Or.inl ⟨by kernel_rfl, fun w hSw => by go_simp⟩) (by assumption) ?_
                  change wpAnyH _ _ _ _ _ _ _ (Act.put _ (some 70) _) _
                  try simp only [Act.put, List.setIfInBounds_toArray, List.set_cons_zero, List.set_cons_succ]
                  refine wpAnyH_take (i := 24) (v := .bool false) rfl (by kernel_rfl) (by kernel_rfl) (by kernel_rfl) (fun _ _ _ h => h) (Or.inl ⟨by kernel_rfl, fun w hSw => by go_simp⟩) (by assumption) ?_
                  change wpAnyH _ _ _ _ _ _ _ (Act.put _ (some 71) _) _
                  try simp only [Act.put, List.setIfInBounds_toArray, List.set_cons_zero, List.set_cons_succ]
                  refine wpAnyH_take (i := 25) (v := .bool false) rfl (by kernel_rfl) (by kernel_rfl) (by kernel_rfl) (fun _ _ _ h => h) (Or.inl ⟨by kernel_rfl, fun w hSw => by go_simp⟩) (by assumption) ?_
                  change wpAnyH _ _ _ _ _ _ _ (Act.put _ (some 72) _) _
                  try simp only [Act.put, List.setIfInBounds_toArray, List.set_cons_zero, List.set_cons_succ]
                  refine wpAnyH_take (i := 26) (v := .bool false) rfl (by kernel_rfl) (by kernel_rfl) (by kernel_rfl) (fun _ _ _ h => h) (Or.inl ⟨by kernel_rfl, fun w hSw => by go_simp⟩) (by assumption) ?_
                  change wpAnyH _ _ _ _ _ _ _ (Act.put _ (some 73) _) _
                  try simp only [Act.put, List.setIfInBounds_toArray, List.set_cons_zero, List.set_cons_succ]
                  refine wpAnyH_take (i := 27) (v := .bool false) rfl (by kernel_rfl) (by kernel_rfl) (by kernel_rfl) (fun _ _ _ h => h) (Or.inl ⟨by kernel_rfl, fun w hSw => by go_simp⟩) (by assumption) ?_
                  change wpAnyH _ _ _ _ _ _ _ (Act.put _ (some 74) _) _
                  try simp only [Act.put, List.setIfInBounds_toArray, List.set_cons_zero, List.set_cons_succ]
                  refine wpAnyH_take (i := 28) (v := .bool false) rfl (by kernel_rfl) (by kernel_rfl) (by kernel_rfl) (fun _ _ _ h => h) (Or.inl ⟨by kernel_rfl, fun w hSw => by go_simp⟩) (by assumption) ?_
                  change wpAnyH _ _ _ _ _ _ _ (Act.put _ (some 75) _) _
                  try simp only [Act.put, List.setIfInBounds_toArray, List.set_cons_zero, List.set_cons_succ]
                  refine wpAnyH_take (i := 29) (v := .bool true) rfl (by kernel_rfl) (by kernel_rfl) (by kernel_rfl) (fun _ _ _ h => h) (Or.inl ⟨by kernel_rfl, fun w hSw => by go_simp⟩) (by assumption) ?_
                  change wpAnyH _ _ _ _ _ _ _ (Act.put _ (some 76) _) _
                  try simp only [Act.put, List.setIfInBounds_toArray, List.set_cons_zero, List.set_cons_succ]
                  refine wpAnyH_take (i := 30) (v := .bool true) rfl (by kernel_rfl) (by kernel_rfl) (by kernel_rfl) (fun _ _ _ h => h) (Or.inl ⟨by kernel_rfl, fun w hSw => by go_simp⟩) (by assumption) ?_
                  change wpAnyH _ _ _ _ _ _ _ (Act.put _ (some 77) _) _
                  try simp only [Act.put, List.setIfInBounds_toArray, List.set_cons_zero, List.set_cons_succ]
                  refine wpAnyH_take (i := 31) (v := .bool true) rfl (by kernel_rfl) (by kernel_rfl) (by kernel_rfl) (fun _ _ _ h => h) (Or.inl ⟨by kernel_rfl, fun w hSw => by go_simp⟩) (by assumption) ?_
                  change wpAnyH _ _ _ _ _ _ _ (Act.put _ (some 6) _) _
                  try simp only [Act.put, List.setIfInBounds_toArray, List.set_cons_zero, List.set_cons_succ]
                  refine wpAnyH_done (by kernel_rfl) ?_ _
                  go_wp2_with fail
                  go_ret
                  exact ⟨rfl, bthen BW.out hw11.b⟩
          · go_wp2_with fail
            go_ret
            exact ⟨rfl, bthen B1.out (bthen K2.out.b hb3)⟩
  · go_wp2_with fail
    go_ret
    exact ⟨rfl, bthen B1.out hb2⟩

end Go.Proofs.Qxb6614450a.W
