import Derived.Test.Qxb6614450aSix
namespace Go.Proofs.Qxb6614450a.W
open Go.RowKit
set_option linter.unusedSimpArgs false

theorem wpList_load_wanted {P : Program} {ops : Array Oper} {rest : List Oper} {op : Oper} {a : Act} {w : World} {Q : Exit → Act → World → Prop} (hw : Region.wanted op (yielded ops a.tmps) = true) (ty : TypeId) (x : Operand) (ho : op.op = .load ty x)
    (b o : Nat) (hx : a.eval x = .pointer (some ⟨b, o, none⟩)) (cs : List Value) (d : TypeDesc) (hc : w.rangeAt b o cs)
    (hu : P.underlying ty = some d) (hd : d.isRow = true) (hi : (P.info? ty).map (·.size) = some cs.length)
    (h : wpList P ops Q rest (a.put op.dst (.agg cs.toArray)) w) : wpList P ops Q (op :: rest) a w :=
  wpList_step fun K hK => by
    simp only [hw, if_true]
    exact wp_load_mid ty x ho b o hx cs d hc hu hd hi (hK _ _ h)

/-- A new variable of type 30, and an id stored in it. -/
theorem box_there (w : World) (f : Nat → Nat) : (w.alloc (.cells #[Value.int .u8 0, Value.int .u8 0, Value.int .u8 0, Value.int .u8 0, Value.int .u8 0, Value.int .u8 0, Value.int .u8 0, Value.int .u8 0, Value.int .u8 0, Value.int .u8 0, Value.int .u8 0, Value.int .u8 0, Value.int .u8 0, Value.int .u8 0, Value.int .u8 0, Value.int .u8 0, Value.int .u8 0, Value.int .u8 0, Value.int .u8 0, Value.int .u8 0] 30)).there w.heap.size 0 (idL f).toArray.size := fun j hj => by
  have hj : j < 20 := by simpa [idL_len] using hj
  refine ⟨?_, World.frozen?_alloc_at _ _ _ _ rfl⟩
  rw [Nat.zero_add, World.cell?_alloc_new]
  simp [hj]
theorem box_range (w : World) (f : Nat → Nat) : ((w.alloc (.cells #[Value.int .u8 0, Value.int .u8 0, Value.int .u8 0, Value.int .u8 0, Value.int .u8 0, Value.int .u8 0, Value.int .u8 0, Value.int .u8 0, Value.int .u8 0, Value.int .u8 0, Value.int .u8 0, Value.int .u8 0, Value.int .u8 0, Value.int .u8 0, Value.int .u8 0, Value.int .u8 0, Value.int .u8 0, Value.int .u8 0, Value.int .u8 0, Value.int .u8 0] 30)).setCells w.heap.size 0 (idL f).toArray.toList).rangeAt w.heap.size 0 (idL f) := World.rangeAt_setCells_same _ _ _ _ (by simpa using box_there w f)
theorem box_below (w : World) (f : Nat → Nat) : Below w.heap.size w ((w.alloc (.cells #[Value.int .u8 0, Value.int .u8 0, Value.int .u8 0, Value.int .u8 0, Value.int .u8 0, Value.int .u8 0, Value.int .u8 0, Value.int .u8 0, Value.int .u8 0, Value.int .u8 0, Value.int .u8 0, Value.int .u8 0, Value.int .u8 0, Value.int .u8 0, Value.int .u8 0, Value.int .u8 0, Value.int .u8 0, Value.int .u8 0, Value.int .u8 0, Value.int .u8 0] 30)).setCells w.heap.size 0 (idL f).toArray.toList) := below_setCells _ (Nat.le_refl _) _ _ _ (below_alloc _ _)
theorem box_size (f : Nat → Nat) : (Try.prog.info? 30).map (·.size) = some (idL f).toArray.size := by simpa using szL30 f

set_option maxHeartbeats 4000000 in
set_option maxRecDepth 100000 in
theorem six_calls (a : Option Addr) (n c : Nat) (F : Nat → Nat → Nat) (g h : Nat → Nat) (w : World) (hn : n ≤ 9223372036854775807) (ho : Ids w a n F) (hF : ∀ i j, F i j < 256) (hg : ∀ j, g j < 256) (hh : ∀ j, h j < 256) :
    Calls Try.prog 6 #[.slice a n c, .agg (idL g).toArray, .agg (idL h).toArray] w fun e w' => e = .returned (.bool true) ∧ Below w.heap.size w w' := by
  have L1 : Hid (((w.alloc (.cells (idL g).toArray 25)).alloc (.cells (idL h).toArray 25)).rangeAt w.heap.size 0 (idL g)) := rangeAt_below (At.new w g 25).range (below_alloc _ _)
  have L2 : Hid (((w.alloc (.cells (idL g).toArray 25)).alloc (.cells (idL h).toArray 25)).rangeAt (w.heap.size + 1) 0 (idL h)) := by have := (At.new (w.alloc (.cells (idL g).toArray 25)) h 25).range; show World.rangeAt _ _ _ _; simpa using this
  have B1 : Hid (Below w.heap.size w ((w.alloc (.cells (idL g).toArray 25)).alloc (.cells (idL h).toArray 25))) := bthen (below_alloc _ _) (below_alloc _ _)
  have HO : Hid (Ids ((w.alloc (.cells (idL g).toArray 25)).alloc (.cells (idL h).toArray 25)) a n F) := ho.below (bthen (below_alloc _ _) (below_alloc _ _))
  have HF : Hid (∀ i j, F i j < 256) := hF
  have HGG : Hid (∀ j, g j < 256) := hg
  have HHH : Hid (∀ j, h j < 256) := hh
  clear ho hF hg hh
  go_enter Try.func6, Try.ntmps6
  go_wp2_with (first | (refine wpList_load_mid rfl 25 (.tmp 4) ?_ w.heap.size 0 ?_ (idL g) _ ?_ Try.underlying25 rfl (szL25 g) ?_; (· rfl); (· kernel_rfl); (· exact L1.out)) | (refine wpList_load_mid rfl 25 (.tmp 5) ?_ (w.heap.size + 1) 0 ?_ (idL h) _ ?_ Try.underlying25 rfl (szL25 h) ?_; (· rfl); (· kernel_rfl); (· exact L2.out)))
  generalize (w.alloc (.cells (idL g).toArray 25)).alloc (.cells (idL h).toArray 25) = W1 at *
  obtain ⟨B, hBB⟩ : ∃ B, B = w.heap.size := ⟨_, rfl⟩
  rw [← hBB] at L1 L2
  rw [← hBB]
  clear hBB
  refine (zzBytes14_calls a n c g h W1 hn).mono ?_
  rintro e w2 ⟨⟨rfl, hn1⟩ | rfl, hb2⟩
  · have K2 : Hid (Keeps W1 w2) := ⟨hb2⟩
    clear hb2
    by_cases h1 : 32768 < n
    · have t1 : decide ((32768 : Int) < (n : Int)) = true := by simp; omega
      go_wp2_with fail
      go_ret
      exact ⟨rfl, bthen B1.out K2.out.b⟩
    · have t1 : decide ((32768 : Int) < (n : Int)) = false := by simp; omega
      have hn2 : n ≤ 32768 := by omega
      clear hn hn1 h1
      go_wp2_with fail
      refine (idsSorted_calls a n c F w2 (by omega) (HO.out.below K2.out.b) HF.out).mono ?_
      rintro e w3 ⟨⟨rfl, hsrt⟩ | rfl, hb3⟩
      · have HS : Hid (Sorted (num F) n) := hsrt
        have K3 : Hid (Keeps W1 w3) := ⟨bthen K2.out.b hb3⟩
        clear hb3 hsrt K2 t1
        go_wp2_with fail
        go_loopg [7, 8] n (fun gk s i wr => ∃ p t : Nat, p ≤ n ∧ t ≤ p ∧ s = .int .i64 t ∧ i = .int .i64 p ∧ Hid (p + gk = n) ∧ Hid (t = cnt (num F) (val g 20) p) ∧ Hid (Keeps W1 wr))
        case atStart => exact ⟨0, 0, Nat.zero_le _, Nat.le_refl _, rfl, rfl, by show _ = _; omega, by show _ = _; simp [cnt], K3⟩
        case round =>
          obtain ⟨p, t, hp, ht, rfl, rfl, HG, HC, HK⟩ := hrel
          clear K3
          by_cases hlt : p < n
          · obtain ⟨b, o, rfl, hr⟩ := HO.out (by omega)
            have RM : Hid (W1.rangeAt b (o + p * 20) (idL (F p))) := (hr p hlt).range
            have CC : Hid (∀ W, Keeps W1 W → Calls Try.prog 15 #[.agg (idL (F p)).toArray, .agg (idL g).toArray] W fun e w' => e = .returned (.int .i64 (cmp3 (val (F p) 20) (val g 20))) ∧ Keeps W1 w') := fun W hW =>
              (idCmp_calls (F p) g (HF.out p) HGG.out W).mono fun e w' h => ⟨h.1, ⟨bthen hW.b h.2⟩⟩
            have HZ : Hid (decide (cmp3 (val (F p) 20) (val g 20) < 0) = decide (num F p < val g 20)) := cmp3_neg _ _
            clear hr
            go_wp2_with fail
            generalize cmp3 (val (F p) 20) (val g 20) = r at *
            refine wp_region_held_drew (S := fun w' => Keeps W1 w') (by kernel_rfl) ⟨HK.out.b.drew⟩ (fun hHeld => ?_)
            refine wpAnyH_take (i := 0) (v := .slice (some ⟨b, o, none⟩) n c) rfl (by kernel_rfl) (by kernel_rfl) (by kernel_rfl) (fun _ _ _ h => h) (Or.inl ⟨by kernel_rfl, fun w hSw => by go_simp⟩) (by assumption) ?_
            change wpAnyH _ _ _ _ _ _ _ (Act.put _ (some 35) _) _
            try simp only [Act.put, List.setIfInBounds_toArray, List.set_cons_zero, List.set_cons_succ]
            refine wpAnyH_take (i := 1) (v := .int .i64 p) rfl (by kernel_rfl) (by kernel_rfl) (by kernel_rfl) (fun _ _ _ h => h) (Or.inl ⟨by kernel_rfl, fun w hSw => by go_simp⟩) (by assumption) ?_
            change wpAnyH _ _ _ _ _ _ _ (Act.put _ (some 36) _) _
            try simp only [Act.put, List.setIfInBounds_toArray, List.set_cons_zero, List.set_cons_succ]
            refine wpAnyH_take (i := 2) (v := .pointer (some ⟨b, o + p * 20, none⟩)) rfl (by kernel_rfl) (by kernel_rfl) (by kernel_rfl) (fun _ _ _ h => h) (Or.inl ⟨by kernel_rfl, fun w hSw => by go_simp⟩) (by assumption) ?_
            change wpAnyH _ _ _ _ _ _ _ (Act.put _ (some 37) _) _
            try simp only [Act.put, List.setIfInBounds_toArray, List.set_cons_zero, List.set_cons_succ]
            refine wpAnyH_take (i := 3) (v := .agg (idL (F p)).toArray) rfl (by kernel_rfl) (by kernel_rfl) (by kernel_rfl) (fun _ _ _ h => h) ?hy3 (by assumption) ?_
            case hy3 =>
              refine yieldsIf_load_mid ?hw3 25 _ rfl b (o + p * 20) ?hx3 (idL (F p)) _ (fun w hw => rangeAt_below RM.out hw.b) Try.underlying25 rfl (szL25 (F p))
              case hw3 => kernel_rfl
              case hx3 => kernel_rfl
            change wpAnyH _ _ _ _ _ _ _ (Act.put _ (some 38) _) _
            try simp only [Act.put, List.setIfInBounds_toArray, List.set_cons_zero, List.set_cons_succ]
            refine wpAnyH_take (i := 4) (v := .agg (idL g).toArray) rfl (by kernel_rfl) (by kernel_rfl) (by kernel_rfl) (fun _ _ _ h => h) ?hy4 (by assumption) ?_
            case hy4 =>
              refine yieldsIf_load_mid ?hw4 25 _ rfl B (0) ?hx4 (idL g) _ (fun w hw => rangeAt_below L1.out hw.b) Try.underlying25 rfl (szL25 g)
              case hw4 => kernel_rfl
              case hx4 => kernel_rfl
            change wpAnyH _ _ _ _ _ _ _ (Act.put _ (some 39) _) _
            try simp only [Act.put, List.setIfInBounds_toArray, List.set_cons_zero, List.set_cons_succ]
            refine wpAnyH_ready (rs := [5]) (by kernel_rfl) (by simp) ?_
            refine AllReadyH.cons (o := _) rfl (fun K hK => ?_) AllReadyH.nil
            rw [if_pos (by kernel_rfl)]
            go_simp
            refine (CC.out _ (by assumption)).mono ?_
            rintro e w7 ⟨rfl, h7⟩
            refine hK.out _ _ h7 (fun hHeld2 => ?_)
            clear hK K
            try simp only [Act.put, List.setIfInBounds_toArray, List.set_cons_zero, List.set_cons_succ]
            refine wpAnyH_take (i := 6) (v := .bool (decide (r < 0))) rfl (by kernel_rfl) (by kernel_rfl) (by kernel_rfl) (fun _ _ _ h => h) (Or.inl ⟨by kernel_rfl, fun w hSw => by go_simp⟩) (by assumption) ?_
            change wpAnyH _ _ _ _ _ _ _ (Act.put _ (some 41) _) _
            try simp only [Act.put, List.setIfInBounds_toArray, List.set_cons_zero, List.set_cons_succ]
            refine wpAnyH_done (by kernel_rfl) ?_ _
            have HK7 : Hid (Keeps W1 w7) := h7
            clear h7 CC hHeld hHeld2
            by_cases hr0 : num F p < val g 20
            · have s1 : r < 0 := of_decide_eq_true (by rw [HZ.out]; exact decide_eq_true hr0)
              have NC : Hid (t + 1 = cnt (num F) (val g 20) (p + 1)) := by show _ = _; rw [HC.out]; simp [cnt, hr0]
              clear hr0 HC
              go_wp2_with fail
              go_roundg (n - (p + 1))
              case measure => have := HG.out; omega
              case rel => exact ⟨p + 1, t + 1, by omega, by omega, by go_num, by go_num, by show _ = _; omega, NC, HK7⟩
            · have s1 : ¬ r < 0 := of_decide_eq_false (by rw [HZ.out]; exact decide_eq_false hr0)
              have NC : Hid (t = cnt (num F) (val g 20) (p + 1)) := by show _ = _; rw [HC.out]; simp [cnt, hr0]
              clear hr0 HC
              go_wp2_with fail
              go_roundg (n - (p + 1))
              case measure => have := HG.out; omega
              case rel => exact ⟨p + 1, t, by omega, by omega, by go_num, by go_num, by show _ = _; omega, NC, HK7⟩
          · obtain rfl : p = n := by omega
            have mk : (Instr.makeSlice 24 (.int .i64 0) (.int .i64 ((p : Int) + 1))).run Try.prog wr = .ok (.slice (some ⟨wr.heap.size, 0, none⟩) 0 (p + 1)) (wr.alloc (.cells (noIds (p + 1)) 25)) := by have := makeIds (p + 1) (by omega) wr; push_cast at this; exact this
            obtain ⟨G, hG⟩ : ∃ G, G = ins F g t := ⟨_, rfl⟩
            have GE : Hid (G = ins F g t) := hG
            have GL : Hid (∀ i, i < t → G i = F i) := fun i hi => by rw [hG]; exact ins_lt hi
            have GM : Hid (G t = g) := by show _ = _; rw [hG]; exact ins_eq F g t
            have GR : Hid (∀ i, t ≤ i → G (i + 1) = F i) := fun i hi => by rw [hG]; exact ins_gt hi
            have G0 : Hid (Grows wr (wr.alloc (.cells (noIds (p + 1)) 25)) wr.heap.size (p + 1) 0 G) := Grows.first wr (p + 1) G
            clear hG hlt hp
            go_wp2_with fail
            clear mk
            generalize wr.alloc (.cells (noIds (p + 1)) 25) = W5 at *
            have IW : Hid (Ids wr a p F) := HO.out.below HK.out.b
            have LW : Hid (wr.rangeAt B 0 (idL g)) := rangeAt_below L1.out HK.out.b
            obtain ⟨H, hH⟩ : ∃ H, H = wr.heap.size := ⟨_, rfl⟩
            rw [← hH] at G0
            rw [← hH]
            clear hH
            generalize wr = W4 at *
            go_loopg [9, 10] t (fun gk s i wr => ∃ q : Nat, q ≤ t ∧ s = .slice (some ⟨H, 0, none⟩) q (p + 1) ∧ i = .int .i64 q ∧ Hid (q + gk = t) ∧ Hid (Grows W4 wr H (p + 1) q G))
            case atStart => exact ⟨0, Nat.zero_le _, rfl, rfl, by show _ = _; omega, G0⟩
            case round =>
              obtain ⟨q, hq, rfl, rfl, HG2, HGR⟩ := hrel
              clear G0
              by_cases hqt : q < t
              · obtain ⟨b, o, rfl, hr⟩ := IW.out (by omega)
                have RM : Hid (wr.rangeAt b (o + q * 20) (idL (F q))) := rangeAt_below (hr q (by omega)).range HGR.out.bel
                have NW : Hid ((wr.alloc (.cells (idL (F q)).toArray 25)).rangeAt wr.heap.size 0 (idL (F q))) := (At.new wr (F q) 25).range
                have TH : Hid ((wr.alloc (.cells (idL (F q)).toArray 25)).there H 0 ((p + 1) * 20)) := World.there_alloc HGR.out.there _
                have FN : Hid (Grows W4 ((wr.alloc (.cells (idL (F q)).toArray 25)).setCells H (0 + q * 20) (idL (F q))) H (p + 1) (q + 1) G) := by have := HGR.out.next (by omega : q < p + 1); rw [GL.out q hqt] at this; exact this
                have hqp : q < p + 1 := by omega
                clear hr
                go_wp2_with (first | (refine wpList_load_mid rfl 25 (.tmp 56) ?_ b (o + q * 20) ?_ (idL (F q)) _ ?_ Try.underlying25 rfl (szL25 (F q)) ?_; (· rfl); (· kernel_rfl); (· exact RM.out)) | (refine wpList_build1 rfl (.tmp 57) ?_ (F q) ?_ ?_; (· rfl); (· kernel_rfl)) | (refine wpList_append_id rfl (.tmp 53) (.tmp 58) ?_ H q (p + 1) wr.heap.size (F q) ?_ ?_ ?_ hqp ?_ ?_; (· rfl); (· kernel_rfl); (· kernel_rfl); (· exact NW.out); (· exact TH.out); generalize (wr.alloc (.cells (idL (F q)).toArray 25)).setCells H (0 + q * 20) (idL (F q)) = wq at FN ⊢))
                go_roundg (t - (q + 1))
                case measure => have := HG2.out; omega
                case rel => exact ⟨q + 1, by omega, by go_num, by go_num, by show _ = _; omega, FN⟩
              · obtain rfl : q = t := by omega
                have RM : Hid (wr.rangeAt B 0 (idL g)) := rangeAt_below LW.out HGR.out.bel
                have NW : Hid ((wr.alloc (.cells (idL g).toArray 25)).rangeAt wr.heap.size 0 (idL g)) := (At.new wr g 25).range
                have TH : Hid ((wr.alloc (.cells (idL g).toArray 25)).there H 0 ((p + 1) * 20)) := World.there_alloc HGR.out.there _
                have FN : Hid (Grows W4 ((wr.alloc (.cells (idL g).toArray 25)).setCells H (0 + q * 20) (idL g)) H (p + 1) (q + 1) G) := by have := HGR.out.next (by omega : q < p + 1); rw [GM.out] at this; exact this
                have hqp : q < p + 1 := by omega
                clear hqt hq
                go_wp2_with (first | (refine wpList_load_mid rfl 25 (.tmp 4) ?_ B 0 ?_ (idL g) _ ?_ Try.underlying25 rfl (szL25 g) ?_; (· rfl); (· kernel_rfl); (· exact RM.out)) | (refine wpList_build1 rfl (.tmp 61) ?_ g ?_ ?_; (· rfl); (· kernel_rfl)) | (refine wpList_append_id rfl (.tmp 60) (.tmp 62) ?_ H q (p + 1) wr.heap.size g ?_ ?_ ?_ hqp ?_ ?_; (· rfl); (· kernel_rfl); (· kernel_rfl); (· exact NW.out); (· exact TH.out); generalize (wr.alloc (.cells (idL g).toArray 25)).setCells H (0 + q * 20) (idL g) = wq at FN ⊢))
                clear RM NW TH HGR
                go_loopg [9, 11] (p - q) (fun gk s i wr => ∃ m : Nat, q ≤ m ∧ m ≤ p ∧ s = .slice (some ⟨H, 0, none⟩) (m + 1) (p + 1) ∧ i = .int .i64 m ∧ Hid (m + gk = p) ∧ Hid (Grows W4 wr H (p + 1) (m + 1) G))
                case atStart => exact ⟨q, Nat.le_refl _, by omega, rfl, rfl, by show _ = _; omega, FN⟩
                case round =>
                  obtain ⟨m, hqm, hm, rfl, rfl, HG3, HGR⟩ := hrel
                  clear FN
                  by_cases hmp : m < p
                  · obtain ⟨b, o, rfl, hr⟩ := IW.out (by omega)
                    have RM : Hid (wr.rangeAt b (o + m * 20) (idL (F m))) := rangeAt_below (hr m (by omega)).range HGR.out.bel
                    have NW : Hid ((wr.alloc (.cells (idL (F m)).toArray 25)).rangeAt wr.heap.size 0 (idL (F m))) := (At.new wr (F m) 25).range
                    have TH : Hid ((wr.alloc (.cells (idL (F m)).toArray 25)).there H 0 ((p + 1) * 20)) := World.there_alloc HGR.out.there _
                    have FN : Hid (Grows W4 ((wr.alloc (.cells (idL (F m)).toArray 25)).setCells H (0 + (m + 1) * 20) (idL (F m))) H (p + 1) (m + 1 + 1) G) := by have := HGR.out.next (by omega : m + 1 < p + 1); rw [GR.out m hqm] at this; exact this
                    have hmp1 : m + 1 < p + 1 := by omega
                    clear hr
                    go_wp2_with (first | (refine wpList_load_mid rfl 25 (.tmp 74) ?_ b (o + m * 20) ?_ (idL (F m)) _ ?_ Try.underlying25 rfl (szL25 (F m)) ?_; (· rfl); (· kernel_rfl); (· exact RM.out)) | (refine wpList_build1 rfl (.tmp 75) ?_ (F m) ?_ ?_; (· rfl); (· kernel_rfl)) | (refine wpList_append_id rfl (.tmp 71) (.tmp 76) ?_ H (m + 1) (p + 1) wr.heap.size (F m) ?_ ?_ ?_ hmp1 ?_ ?_; (· rfl); (· kernel_rfl); (· kernel_rfl); (· exact NW.out); (· exact TH.out); generalize (wr.alloc (.cells (idL (F m)).toArray 25)).setCells H (0 + (m + 1) * 20) (idL (F m)) = wq at FN ⊢))
                    go_roundg (p - (m + 1))
                    case measure => have := HG3.out; omega
                    case rel => exact ⟨m + 1, by omega, by omega, by go_num, by go_num, by show _ = _; omega, FN⟩
                  · obtain rfl : m = p := by omega
                    have IG : Hid (Ids wr (some ⟨H, 0, none⟩) (m + 1) G) := HGR.out.all
                    have KW : Hid (Keeps W4 wr) := ⟨HGR.out.bel⟩
                    clear HGR HG3 HG2 HG hmp hm hqp GL GM GR
                    go_wp2_with fail
                    refine (idsHeld_calls a m c F wr (by omega) (IW.out.below KW.out.b)).mono ?_
                    rintro e w6 ⟨rfl, hb6, hobj⟩
                    have KX : Hid (Keeps wr w6) := ⟨hb6⟩
                    generalize wr.heap.size = H1 at *
                    have OB : Hid (Objs w6 (some ⟨H1, 0, none⟩) m F) := hobj
                    clear hb6 hobj
                    go_wp2_with fail
                    refine (idsHeld_calls (some ⟨H, 0, none⟩) (m + 1) (m + 1) G w6 (by omega) (IG.out.below KX.out.b)).mono ?_
                    rintro e w7 ⟨rfl, hb7, hobj⟩
                    have OB7 : Hid (Objs w7 (some ⟨H1, 0, none⟩) m F) := OB.out.below hb7
                    have KY : Hid (Keeps W4 w7) := ⟨bthen KW.out.b (bthen KX.out.b hb7)⟩
                    generalize w6.heap.size = H2 at *
                    have OG : Hid (Objs w7 (some ⟨H2, 0, none⟩) (m + 1) G) := hobj
                    clear hb7 hobj OB KX KW IG
                    have GF : Hid (∀ i j, G i j < 256) := fun i j => by rw [GE.out]; exact ins_small HF.out HGG.out _ _ _
                    have GS : Hid (Sorted (num G) (m + 1)) := by show Sorted _ _; rw [GE.out, HC.out]; exact ins_sorted HS.out
                    have E1 : Hid (∀ x, has (num G) (m + 1) x = (has (num F) m x || decide (x = val g 20))) := fun x => by rw [GE.out]; exact ins_has F g _ _ x (by omega)
                    have E2 : Hid (has (num F) m (val g 20) = (decide (q < m) && decide (num F q = val g 20))) := by show _ = _; rw [HC.out]; exact before_has HS.out
                    have IX : Hid (Ids w7 a m F) := IW.out.below KY.out.b
                    have LG : Hid (w7.rangeAt B 0 (idL g)) := rangeAt_below LW.out KY.out.b
                    have LH : Hid (w7.rangeAt (B + 1) 0 (idL h)) := rangeAt_below L2.out (bthen HK.out.b KY.out.b)
                    have BW : Hid (Below w.heap.size w w7) := bthen B1.out (bthen HK.out.b KY.out.b)
                    clear GE HC IW LW L1 L2 B1 HK KY HO
                    have L8 : Hid (((w7.alloc (.cells #[Value.int .u8 0, Value.int .u8 0, Value.int .u8 0, Value.int .u8 0, Value.int .u8 0, Value.int .u8 0, Value.int .u8 0, Value.int .u8 0, Value.int .u8 0, Value.int .u8 0, Value.int .u8 0, Value.int .u8 0, Value.int .u8 0, Value.int .u8 0, Value.int .u8 0, Value.int .u8 0, Value.int .u8 0, Value.int .u8 0, Value.int .u8 0, Value.int .u8 0] 30)).setCells w7.heap.size 0 (idL g).toArray.toList).rangeAt w7.heap.size 0 (idL g)) := box_range w7 g
                    have B8 : Hid (Below w7.heap.size w7 ((w7.alloc (.cells #[Value.int .u8 0, Value.int .u8 0, Value.int .u8 0, Value.int .u8 0, Value.int .u8 0, Value.int .u8 0, Value.int .u8 0, Value.int .u8 0, Value.int .u8 0, Value.int .u8 0, Value.int .u8 0, Value.int .u8 0, Value.int .u8 0, Value.int .u8 0, Value.int .u8 0, Value.int .u8 0, Value.int .u8 0, Value.int .u8 0, Value.int .u8 0, Value.int .u8 0] 30)).setCells w7.heap.size 0 (idL g).toArray.toList)) := box_below w7 g
                    go_wp2_with (first | (refine wpList_load_mid rfl 25 (.tmp 4) ?_ B 0 ?_ (idL g) _ ?_ Try.underlying25 rfl (szL25 g) ?_; (· rfl); (· kernel_rfl); (· exact LG.out)) | (refine wpList_store_mid rfl 30 (.tmp 14) (.tmp 82) ?_ w7.heap.size 0 (idL g).toArray ?_ ?_ ?_ (box_size g) (idL_one g) ?_; (· rfl); (· kernel_rfl); (· kernel_rfl); (· exact box_there w7 g); generalize (w7.alloc (.cells #[Value.int .u8 0, Value.int .u8 0, Value.int .u8 0, Value.int .u8 0, Value.int .u8 0, Value.int .u8 0, Value.int .u8 0, Value.int .u8 0, Value.int .u8 0, Value.int .u8 0, Value.int .u8 0, Value.int .u8 0, Value.int .u8 0, Value.int .u8 0, Value.int .u8 0, Value.int .u8 0, Value.int .u8 0, Value.int .u8 0, Value.int .u8 0, Value.int .u8 0] 30)).setCells w7.heap.size 0 (idL g).toArray.toList = w8 at L8 B8 ⊢) | (refine wpList_load_mid rfl 25 (.tmp 5) ?_ (B + 1) 0 ?_ (idL h) _ ?_ Try.underlying25 rfl (szL25 h) ?_; (· rfl); (· kernel_rfl); (· exact rangeAt_below LH.out B8.out)) | (refine wpList_store_mid rfl 30 (.tmp 15) (.tmp 83) ?_ w8.heap.size 0 (idL h).toArray ?_ ?_ ?_ (box_size h) (idL_one h) ?_; (· rfl); (· kernel_rfl); (· kernel_rfl); (· exact box_there w8 h); (have L9 : Hid (((w8.alloc (.cells #[Value.int .u8 0, Value.int .u8 0, Value.int .u8 0, Value.int .u8 0, Value.int .u8 0, Value.int .u8 0, Value.int .u8 0, Value.int .u8 0, Value.int .u8 0, Value.int .u8 0, Value.int .u8 0, Value.int .u8 0, Value.int .u8 0, Value.int .u8 0, Value.int .u8 0, Value.int .u8 0, Value.int .u8 0, Value.int .u8 0, Value.int .u8 0, Value.int .u8 0] 30)).setCells w8.heap.size 0 (idL h).toArray.toList).rangeAt w8.heap.size 0 (idL h)) := box_range w8 h); (have B9 : Hid (Below w8.heap.size w8 ((w8.alloc (.cells #[Value.int .u8 0, Value.int .u8 0, Value.int .u8 0, Value.int .u8 0, Value.int .u8 0, Value.int .u8 0, Value.int .u8 0, Value.int .u8 0, Value.int .u8 0, Value.int .u8 0, Value.int .u8 0, Value.int .u8 0, Value.int .u8 0, Value.int .u8 0, Value.int .u8 0, Value.int .u8 0, Value.int .u8 0, Value.int .u8 0, Value.int .u8 0, Value.int .u8 0] 30)).setCells w8.heap.size 0 (idL h).toArray.toList)) := box_below w8 h); generalize (w8.alloc (.cells #[Value.int .u8 0, Value.int .u8 0, Value.int .u8 0, Value.int .u8 0, Value.int .u8 0, Value.int .u8 0, Value.int .u8 0, Value.int .u8 0, Value.int .u8 0, Value.int .u8 0, Value.int .u8 0, Value.int .u8 0, Value.int .u8 0, Value.int .u8 0, Value.int .u8 0, Value.int .u8 0, Value.int .u8 0, Value.int .u8 0, Value.int .u8 0, Value.int .u8 0] 30)).setCells w8.heap.size 0 (idL h).toArray.toList = w9 at L9 B9 ⊢))
                    have BB : Hid (Below w7.heap.size w7 w9) := bthen B8.out B9.out
                    have L14 : Hid (w9.rangeAt w7.heap.size 0 (idL g)) := rangeAt_below L8.out B9.out
                    have OF9 : Hid (Objs w9 (some ⟨H1, 0, none⟩) m F) := OB7.out.below BB.out
                    have OG9 : Hid (Objs w9 (some ⟨H2, 0, none⟩) (m + 1) G) := OG.out.below BB.out
                    have I9 : Hid (Ids w9 a m F) := IX.out.below BB.out
                    have LG9 : Hid (w9.rangeAt B 0 (idL g)) := rangeAt_below LG.out BB.out
                    have LH9 : Hid (w9.rangeAt (B + 1) 0 (idL h)) := rangeAt_below LH.out BB.out
                    have BW9 : Hid (Below w.heap.size w w9) := bthen BW.out BB.out
                    clear BW LH LG IX OG OB7 L8 B8 B9 BB
                    generalize w7.heap.size = C1 at *
                    generalize w8.heap.size = C2 at *
                    obtain ⟨vP, hvP⟩ : ∃ v, v = has (num F) m (val h 20) := ⟨_, rfl⟩
                    obtain ⟨vB, hvB⟩ : ∃ v, v = has (num F) m (val g 20) := ⟨_, rfl⟩
                    obtain ⟨dE, hdE⟩ : ∃ v, v = decide (val h 20 = val g 20) := ⟨_, rfl⟩
                    have CG : Hid (∀ W, Keeps w9 W → Calls Try.prog 12 #[.slice (some ⟨H2, 0, none⟩) (m + 1) (m + 1), .agg (idL g).toArray] W fun e w' => e = .returned (.bool true) ∧ Keeps w9 w') := fun W hW =>
                      (ZZholds_calls _ (m + 1) (m + 1) G g W (by omega) (OG9.out.below hW.b) GF.out HGG.out GS.out).mono fun e w' h => ⟨by rw [h.1, E1.out]; simp, ⟨bthen hW.b h.2⟩⟩
                    have CH : Hid (∀ W, Keeps w9 W → Calls Try.prog 12 #[.slice (some ⟨H2, 0, none⟩) (m + 1) (m + 1), .agg (idL h).toArray] W fun e w' => e = .returned (.bool (vP || dE)) ∧ Keeps w9 w') := fun W hW =>
                      (ZZholds_calls _ (m + 1) (m + 1) G h W (by omega) (OG9.out.below hW.b) GF.out HHH.out GS.out).mono fun e w' h => ⟨by rw [h.1, E1.out, hvP, hdE], ⟨bthen hW.b h.2⟩⟩
                    have CF : Hid (∀ W, Keeps w9 W → Calls Try.prog 12 #[.slice (some ⟨H1, 0, none⟩) m m, .agg (idL g).toArray] W fun e w' => e = .returned (.bool vB) ∧ Keeps w9 w') := fun W hW =>
                      (ZZholds_calls _ m m F g W (by omega) (OF9.out.below hW.b) HF.out HGG.out HS.out).mono fun e w' h => ⟨by rw [h.1, hvB], ⟨bthen hW.b h.2⟩⟩
                    have CP : Hid (∀ W, Keeps w9 W → Calls Try.prog 12 #[.slice (some ⟨H1, 0, none⟩) m m, .agg (idL h).toArray] W fun e w' => e = .returned (.bool vP) ∧ Keeps w9 w') := fun W hW =>
                      (ZZholds_calls _ m m F h W (by omega) (OF9.out.below hW.b) HF.out HHH.out HS.out).mono fun e w' h => ⟨by rw [h.1, hvP], ⟨bthen hW.b h.2⟩⟩
                    have CI : Hid (∀ W, Keeps w9 W → Calls Try.prog 15 #[.agg (idL h).toArray, .agg (idL g).toArray] W fun e w' => e = .returned (.int .i64 (cmp3 (val h 20) (val g 20))) ∧ Keeps w9 w') := fun W hW =>
                      (idCmp_calls h g HHH.out HGG.out W).mono fun e w' h => ⟨h.1, ⟨bthen hW.b h.2⟩⟩
                    have ZI : Hid ((cmp3 (val h 20) (val g 20) == 0) = dE) := by show _ = _; rw [hdE]; exact cmp3_zero _ _
                    generalize cmp3 (val h 20) (val g 20) = r2 at *
                    have VB : Hid (vB = (decide (q < m) && decide (num F q = val g 20))) := by show _ = _; rw [hvB]; exact E2.out
                    clear hvP hvB hdE OG9 OF9 GF GS HHH HS E1 E2
                    by_cases hqm : q < m
                    · obtain ⟨b, o, rfl, hr⟩ := I9.out (by omega)
                      have RM : Hid (w9.rangeAt b (o + q * 20) (idL (F q))) := (hr q hqm).range
                      have CC : Hid (∀ W, Keeps w9 W → Calls Try.prog 15 #[.agg (idL (F q)).toArray, .agg (idL g).toArray] W fun e w' => e = .returned (.int .i64 (cmp3 (val (F q) 20) (val g 20))) ∧ Keeps w9 w') := fun W hW =>
                        (idCmp_calls (F q) g (HF.out q) HGG.out W).mono fun e w' h => ⟨h.1, ⟨bthen hW.b h.2⟩⟩
                      have hz : (cmp3 (val (F q) 20) (val g 20) == 0) = vB := by rw [VB.out, decide_eq_true hqm, Bool.true_and]; exact cmp3_zero _ _
                      generalize cmp3 (val (F q) 20) (val g 20) = r at *
                      clear hr VB
                      refine wp_region_held_drew (S := fun w' => Keeps w9 w') (by kernel_rfl) ⟨(Below.refl _ w9).drew⟩ (fun hHeld => ?_)
                      refine wpAnyH_take (i := 0) (v := .int .i64 q) rfl (by kernel_rfl) (by kernel_rfl) (by kernel_rfl) (fun _ _ _ h => h) (Or.inl ⟨by kernel_rfl, fun w hSw => by go_simp⟩) (by assumption) ?_
                      change wpAnyH _ _ _ _ _ _ _ (Act.put _ (some 84) _) _
                      try simp only [Act.put, List.setIfInBounds_toArray, List.set_cons_zero, List.set_cons_succ]
                      refine wpAnyH_take (i := 1) (v := .slice (some ⟨b, o, none⟩) m c) rfl (by kernel_rfl) (by kernel_rfl) (by kernel_rfl) (fun _ _ _ h => h) (Or.inl ⟨by kernel_rfl, fun w hSw => by go_simp⟩) (by assumption) ?_
                      change wpAnyH _ _ _ _ _ _ _ (Act.put _ (some 85) _) _
                      try simp only [Act.put, List.setIfInBounds_toArray, List.set_cons_zero, List.set_cons_succ]
                      refine wpAnyH_take (i := 2) (v := .int .i64 m) rfl (by kernel_rfl) (by kernel_rfl) (by kernel_rfl) (fun _ _ _ h => h) (Or.inl ⟨by kernel_rfl, fun w hSw => by go_simp⟩) (by assumption) ?_
                      change wpAnyH _ _ _ _ _ _ _ (Act.put _ (some 86) _) _
                      try simp only [Act.put, List.setIfInBounds_toArray, List.set_cons_zero, List.set_cons_succ]
                      refine wpAnyH_take (i := 3) (v := .bool true) rfl (by kernel_rfl) (by kernel_rfl) (by kernel_rfl) (fun _ _ _ h => h) (Or.inl ⟨by kernel_rfl, fun w hSw => by go_simp⟩) (by assumption) ?_
                      change wpAnyH _ _ _ _ _ _ _ (Act.put _ (some 87) _) _
                      try simp only [Act.put, List.setIfInBounds_toArray, List.set_cons_zero, List.set_cons_succ]
                      refine wpAnyH_take (i := 4) (v := .bool true) rfl (by kernel_rfl) (by kernel_rfl) (by kernel_rfl) (fun _ _ _ h => h) (Or.inl ⟨by kernel_rfl, fun w hSw => by go_simp⟩) (by assumption) ?_
                      change wpAnyH _ _ _ _ _ _ _ (Act.put _ (some 88) _) _
                      try simp only [Act.put, List.setIfInBounds_toArray, List.set_cons_zero, List.set_cons_succ]
                      refine wpAnyH_take (i := 5) (v := .slice (some ⟨b, o, none⟩) m c) rfl (by kernel_rfl) (by kernel_rfl) (by kernel_rfl) (fun _ _ _ h => h) (Or.inl ⟨by kernel_rfl, fun w hSw => by go_simp⟩) (by assumption) ?_
                      change wpAnyH _ _ _ _ _ _ _ (Act.put _ (some 89) _) _
                      try simp only [Act.put, List.setIfInBounds_toArray, List.set_cons_zero, List.set_cons_succ]
                      refine wpAnyH_take (i := 6) (v := .int .i64 q) rfl (by kernel_rfl) (by kernel_rfl) (by kernel_rfl) (fun _ _ _ h => h) (Or.inl ⟨by kernel_rfl, fun w hSw => by go_simp⟩) (by assumption) ?_
                      change wpAnyH _ _ _ _ _ _ _ (Act.put _ (some 90) _) _
                      try simp only [Act.put, List.setIfInBounds_toArray, List.set_cons_zero, List.set_cons_succ]
                      refine wpAnyH_take (i := 7) (v := .pointer (some ⟨b, o + q * 20, none⟩)) rfl (by kernel_rfl) (by kernel_rfl) (by kernel_rfl) (fun _ _ _ h => h) (Or.inl ⟨by kernel_rfl, fun w hSw => by go_simp⟩) (by assumption) ?_
                      change wpAnyH _ _ _ _ _ _ _ (Act.put _ (some 91) _) _
                      try simp only [Act.put, List.setIfInBounds_toArray, List.set_cons_zero, List.set_cons_succ]
                      refine wpAnyH_take (i := 8) (v := .agg (idL (F q)).toArray) rfl (by kernel_rfl) (by kernel_rfl) (by kernel_rfl) (fun _ _ _ h => h) ?hy8 (by assumption) ?_
                      case hy8 =>
                        refine yieldsIf_load_mid ?hw8 25 _ rfl b (o + q * 20) ?hx8 (idL (F q)) _ (fun w hw => rangeAt_below RM.out hw.b) Try.underlying25 rfl (szL25 (F q))
                        case hw8 => kernel_rfl
                        case hx8 => kernel_rfl
                      change wpAnyH _ _ _ _ _ _ _ (Act.put _ (some 92) _) _
                      try simp only [Act.put, List.setIfInBounds_toArray, List.set_cons_zero, List.set_cons_succ]
                      refine wpAnyH_take (i := 9) (v := .agg (idL g).toArray) rfl (by kernel_rfl) (by kernel_rfl) (by kernel_rfl) (fun _ _ _ h => h) ?hy9 (by assumption) ?_
                      case hy9 =>
                        refine yieldsIf_load_mid ?hw9 25 _ rfl B (0) ?hx9 (idL g) _ (fun w hw => rangeAt_below LG9.out hw.b) Try.underlying25 rfl (szL25 g)
                        case hw9 => kernel_rfl
                        case hx9 => kernel_rfl
                      change wpAnyH _ _ _ _ _ _ _ (Act.put _ (some 93) _) _
                      try simp only [Act.put, List.setIfInBounds_toArray, List.set_cons_zero, List.set_cons_succ]
                      refine wpAnyH_ready (rs := [10]) (by kernel_rfl) (by simp) ?_
                      refine AllReadyH.cons (o := _) rfl (fun K hK => ?_) AllReadyH.nil
                      rw [if_pos (by kernel_rfl)]
                      go_simp
                      refine (CC.out _ (by assumption)).mono ?_
                      rintro e w10 ⟨rfl, h10⟩
                      refine hK.out _ _ h10 (fun hHeld2 => ?_)
                      clear hK K
                      try simp only [Act.put, List.setIfInBounds_toArray, List.set_cons_zero, List.set_cons_succ]
                      refine wpAnyH_take (i := 11) (v := .bool vB) rfl (by kernel_rfl) (by kernel_rfl) (by kernel_rfl) (fun _ _ _ h => h) (Or.inl ⟨by kernel_rfl, fun w hSw => by go_simp⟩) (by assumption) ?_
                      change wpAnyH _ _ _ _ _ _ _ (Act.put _ (some 95) _) _
                      try simp only [Act.put, List.setIfInBounds_toArray, List.set_cons_zero, List.set_cons_succ]
                      refine wpAnyH_take (i := 12) (v := .bool vB) rfl (by kernel_rfl) (by kernel_rfl) (by kernel_rfl) (fun _ _ _ h => h) (Or.inl ⟨by kernel_rfl, fun w hSw => by go_simp⟩) (by assumption) ?_
                      change wpAnyH _ _ _ _ _ _ _ (Act.put _ (some 96) _) _
                      try simp only [Act.put, List.setIfInBounds_toArray, List.set_cons_zero, List.set_cons_succ]
                      refine wpAnyH_take (i := 13) (v := .bool vB) rfl (by kernel_rfl) (by kernel_rfl) (by kernel_rfl) (fun _ _ _ h => h) (Or.inl ⟨by kernel_rfl, fun w hSw => by go_simp⟩) (by assumption) ?_
                      change wpAnyH _ _ _ _ _ _ _ (Act.put _ (some 16) _) _
                      try simp only [Act.put, List.setIfInBounds_toArray, List.set_cons_zero, List.set_cons_succ]
                      refine wpAnyH_done (by kernel_rfl) ?_ _
                      have K10 : Hid (Keeps w9 w10) := h10
                      clear h10 CC hHeld hHeld2 hz
                      go_wp2_with (first | (refine wpList_load_mid rfl 30 (.tmp 15) ?_ C2 0 ?_ (idL h) _ ?_ Try.underlying30 rfl (szL30 h) ?_; (· rfl); (· kernel_rfl); (· exact rangeAt_below L9.out K10.out.b)))
                      refine (CP.out _ K10.out).mono ?_
                      rintro e w11 ⟨rfl, h11⟩
                      have K11 : Hid (Keeps w9 w11) := h11
                      clear h11 K10
                      go_wp2_with (first | (refine wpList_load_mid rfl 30 (.tmp 14) ?_ C1 0 ?_ (idL g) _ ?_ Try.underlying30 rfl (szL30 g) ?_; (· rfl); (· kernel_rfl); (· exact rangeAt_below L14.out K11.out.b)))
                      refine (CG.out _ K11.out).mono ?_
                      rintro e w12 ⟨rfl, h12⟩
                      have K12 : Hid (Keeps w9 w12) := h12
                      clear h12 K11
                      go_wp2_with (first | (refine wpList_load_wanted ?_ 30 (.tmp 14) ?_ C1 0 ?_ (idL g) _ ?_ Try.underlying30 rfl (szL30 g) ?_; (· kernel_rfl); (· rfl); (· kernel_rfl); (· exact rangeAt_below L14.out K12.out.b)))
                      refine (CF.out _ K12.out).mono ?_
                      rintro e w13 ⟨rfl, h13⟩
                      have K13 : Hid (Keeps w9 w13) := h13
                      clear h13 K12
                      have vv : (vB == vB) = true := by simp
                      go_wp2_with (first | (refine wpList_load_wanted ?_ 30 (.tmp 15) ?_ C2 0 ?_ (idL h) _ ?_ Try.underlying30 rfl (szL30 h) ?_; (· kernel_rfl); (· rfl); (· kernel_rfl); (· exact rangeAt_below L9.out K13.out.b)))
                      refine (CH.out _ K13.out).mono ?_
                      rintro e w14 ⟨rfl, h14⟩
                      have K14 : Hid (Keeps w9 w14) := h14
                      clear h14 K13
                      cases vP with
                      | true =>
                        have v2 : (true || dE) = true := by simp
                        rw [v2]
                        go_wp2_with fail
                        go_ret
                        exact ⟨rfl, bthen BW9.out K14.out.b⟩
                      | false =>
                        have v2 : (false || dE) = dE := by simp
                        rw [v2]
                        go_wp2_with (first | (refine wpList_load_wanted ?_ 25 (.tmp 5) ?_ (B + 1) 0 ?_ (idL h) _ ?_ Try.underlying25 rfl (szL25 h) ?_; (· kernel_rfl); (· rfl); (· kernel_rfl); (· exact rangeAt_below LH9.out K14.out.b)) | (refine wpList_load_wanted ?_ 25 (.tmp 4) ?_ B 0 ?_ (idL g) _ ?_ Try.underlying25 rfl (szL25 g) ?_; (· kernel_rfl); (· rfl); (· kernel_rfl); (· exact rangeAt_below LG9.out K14.out.b)))
                        refine (CI.out _ K14.out).mono ?_
                        rintro e w15 ⟨rfl, h15⟩
                        have K15 : Hid (Keeps w9 w15) := h15
                        clear h15 K14
                        have z2 := ZI.out
                        have dd : (dE == dE) = true := by simp
                        go_wp2_with fail
                        go_ret
                        exact ⟨rfl, bthen BW9.out K15.out.b⟩
                    · obtain rfl : q = m := by omega
                      have vb : vB = false := by rw [VB.out]; simp
                      subst vb
                      clear VB
                      refine wp_region_held_drew (S := fun w' => Keeps w9 w') (by kernel_rfl) ⟨(Below.refl _ w9).drew⟩ (fun hHeld => ?_)
                      refine wpAnyH_take (i := 0) (v := .int .i64 q) rfl (by kernel_rfl) (by kernel_rfl) (by kernel_rfl) (fun _ _ _ h => h) (Or.inl ⟨by kernel_rfl, fun w hSw => by go_simp⟩) (by assumption) ?_
                      change wpAnyH _ _ _ _ _ _ _ (Act.put _ (some 84) _) _
                      try simp only [Act.put, List.setIfInBounds_toArray, List.set_cons_zero, List.set_cons_succ]
                      refine wpAnyH_take (i := 1) (v := .slice a q c) rfl (by kernel_rfl) (by kernel_rfl) (by kernel_rfl) (fun _ _ _ h => h) (Or.inl ⟨by kernel_rfl, fun w hSw => by go_simp⟩) (by assumption) ?_
                      change wpAnyH _ _ _ _ _ _ _ (Act.put _ (some 85) _) _
                      try simp only [Act.put, List.setIfInBounds_toArray, List.set_cons_zero, List.set_cons_succ]
                      refine wpAnyH_take (i := 2) (v := .int .i64 q) rfl (by kernel_rfl) (by kernel_rfl) (by kernel_rfl) (fun _ _ _ h => h) (Or.inl ⟨by kernel_rfl, fun w hSw => by go_simp⟩) (by assumption) ?_
                      change wpAnyH _ _ _ _ _ _ _ (Act.put _ (some 86) _) _
                      try simp only [Act.put, List.setIfInBounds_toArray, List.set_cons_zero, List.set_cons_succ]
                      refine wpAnyH_take (i := 3) (v := .bool false) rfl (by kernel_rfl) (by kernel_rfl) (by kernel_rfl) (fun _ _ _ h => h) (Or.inl ⟨by kernel_rfl, fun w hSw => by go_simp⟩) (by assumption) ?_
                      change wpAnyH _ _ _ _ _ _ _ (Act.put _ (some 87) _) _
                      try simp only [Act.put, List.setIfInBounds_toArray, List.set_cons_zero, List.set_cons_succ]
                      refine wpAnyH_take (i := 4) (v := .bool false) rfl (by kernel_rfl) (by kernel_rfl) (by kernel_rfl) (fun _ _ _ h => h) (Or.inl ⟨by kernel_rfl, fun w hSw => by go_simp⟩) (by assumption) ?_
                      change wpAnyH _ _ _ _ _ _ _ (Act.put _ (some 88) _) _
                      try simp only [Act.put, List.setIfInBounds_toArray, List.set_cons_zero, List.set_cons_succ]
                      refine wpAnyH_take (i := 5) (v := undef) rfl (by kernel_rfl) (by kernel_rfl) (by kernel_rfl) (fun _ _ _ h => h) (Or.inr ⟨by kernel_rfl, rfl⟩) (by assumption) ?_
                      change wpAnyH _ _ _ _ _ _ _ (Act.put _ (some 89) _) _
                      try simp only [Act.put, List.setIfInBounds_toArray, List.set_cons_zero, List.set_cons_succ]
                      refine wpAnyH_take (i := 6) (v := undef) rfl (by kernel_rfl) (by kernel_rfl) (by kernel_rfl) (fun _ _ _ h => h) (Or.inr ⟨by kernel_rfl, rfl⟩) (by assumption) ?_
                      change wpAnyH _ _ _ _ _ _ _ (Act.put _ (some 90) _) _
                      try simp only [Act.put, List.setIfInBounds_toArray, List.set_cons_zero, List.set_cons_succ]
                      refine wpAnyH_take (i := 7) (v := undef) rfl (by kernel_rfl) (by kernel_rfl) (by kernel_rfl) (fun _ _ _ h => h) (Or.inr ⟨by kernel_rfl, rfl⟩) (by assumption) ?_
                      change wpAnyH _ _ _ _ _ _ _ (Act.put _ (some 91) _) _
                      try simp only [Act.put, List.setIfInBounds_toArray, List.set_cons_zero, List.set_cons_succ]
                      refine wpAnyH_take (i := 8) (v := undef) rfl (by kernel_rfl) (by kernel_rfl) (by kernel_rfl) (fun _ _ _ h => h) (Or.inr ⟨by kernel_rfl, rfl⟩) (by assumption) ?_
                      change wpAnyH _ _ _ _ _ _ _ (Act.put _ (some 92) _) _
                      try simp only [Act.put, List.setIfInBounds_toArray, List.set_cons_zero, List.set_cons_succ]
                      refine wpAnyH_take (i := 9) (v := undef) rfl (by kernel_rfl) (by kernel_rfl) (by kernel_rfl) (fun _ _ _ h => h) (Or.inr ⟨by kernel_rfl, rfl⟩) (by assumption) ?_
                      change wpAnyH _ _ _ _ _ _ _ (Act.put _ (some 93) _) _
                      try simp only [Act.put, List.setIfInBounds_toArray, List.set_cons_zero, List.set_cons_succ]
                      refine wpAnyH_take (i := 10) (v := undef) rfl (by kernel_rfl) (by kernel_rfl) (by kernel_rfl) (fun _ _ _ h => h) (Or.inr ⟨by kernel_rfl, rfl⟩) (by assumption) ?_
                      change wpAnyH _ _ _ _ _ _ _ (Act.put _ (some 94) _) _
                      try simp only [Act.put, List.setIfInBounds_toArray, List.set_cons_zero, List.set_cons_succ]
                      refine wpAnyH_take (i := 11) (v := undef) rfl (by kernel_rfl) (by kernel_rfl) (by kernel_rfl) (fun _ _ _ h => h) (Or.inr ⟨by kernel_rfl, rfl⟩) (by assumption) ?_
                      change wpAnyH _ _ _ _ _ _ _ (Act.put _ (some 95) _) _
                      try simp only [Act.put, List.setIfInBounds_toArray, List.set_cons_zero, List.set_cons_succ]
                      refine wpAnyH_take (i := 12) (v := .bool false) rfl (by kernel_rfl) (by kernel_rfl) (by kernel_rfl) (fun _ _ _ h => h) (Or.inl ⟨by kernel_rfl, fun w hSw => by go_simp⟩) (by assumption) ?_
                      change wpAnyH _ _ _ _ _ _ _ (Act.put _ (some 96) _) _
                      try simp only [Act.put, List.setIfInBounds_toArray, List.set_cons_zero, List.set_cons_succ]
                      refine wpAnyH_take (i := 13) (v := .bool false) rfl (by kernel_rfl) (by kernel_rfl) (by kernel_rfl) (fun _ _ _ h => h) (Or.inl ⟨by kernel_rfl, fun w hSw => by go_simp⟩) (by assumption) ?_
                      change wpAnyH _ _ _ _ _ _ _ (Act.put _ (some 16) _) _
                      try simp only [Act.put, List.setIfInBounds_toArray, List.set_cons_zero, List.set_cons_succ]
                      refine wpAnyH_done (by kernel_rfl) ?_ _
                      have K10 : Hid (Keeps w9 w9.drew) := ⟨(Below.refl _ w9).drew⟩
                      go_wp2_with (first | (refine wpList_load_mid rfl 30 (.tmp 15) ?_ C2 0 ?_ (idL h) _ ?_ Try.underlying30 rfl (szL30 h) ?_; (· rfl); (· kernel_rfl); (· exact rangeAt_below L9.out K10.out.b)))
                      refine (CP.out _ K10.out).mono ?_
                      rintro e w11 ⟨rfl, h11⟩
                      have K11 : Hid (Keeps w9 w11) := h11
                      clear h11 K10
                      go_wp2_with (first | (refine wpList_load_mid rfl 30 (.tmp 14) ?_ C1 0 ?_ (idL g) _ ?_ Try.underlying30 rfl (szL30 g) ?_; (· rfl); (· kernel_rfl); (· exact rangeAt_below L14.out K11.out.b)))
                      refine (CG.out _ K11.out).mono ?_
                      rintro e w12 ⟨rfl, h12⟩
                      have K12 : Hid (Keeps w9 w12) := h12
                      clear h12 K11
                      go_wp2_with (first | (refine wpList_load_wanted ?_ 30 (.tmp 14) ?_ C1 0 ?_ (idL g) _ ?_ Try.underlying30 rfl (szL30 g) ?_; (· kernel_rfl); (· rfl); (· kernel_rfl); (· exact rangeAt_below L14.out K12.out.b)))
                      refine (CF.out _ K12.out).mono ?_
                      rintro e w13 ⟨rfl, h13⟩
                      have K13 : Hid (Keeps w9 w13) := h13
                      clear h13 K12
                      have vv : (false == false) = true := by simp
                      go_wp2_with (first | (refine wpList_load_wanted ?_ 30 (.tmp 15) ?_ C2 0 ?_ (idL h) _ ?_ Try.underlying30 rfl (szL30 h) ?_; (· kernel_rfl); (· rfl); (· kernel_rfl); (· exact rangeAt_below L9.out K13.out.b)))
                      refine (CH.out _ K13.out).mono ?_
                      rintro e w14 ⟨rfl, h14⟩
                      have K14 : Hid (Keeps w9 w14) := h14
                      clear h14 K13
                      cases vP with
                      | true =>
                        have v2 : (true || dE) = true := by simp
                        rw [v2]
                        go_wp2_with fail
                        go_ret
                        exact ⟨rfl, bthen BW9.out K14.out.b⟩
                      | false =>
                        have v2 : (false || dE) = dE := by simp
                        rw [v2]
                        go_wp2_with (first | (refine wpList_load_wanted ?_ 25 (.tmp 5) ?_ (B + 1) 0 ?_ (idL h) _ ?_ Try.underlying25 rfl (szL25 h) ?_; (· kernel_rfl); (· rfl); (· kernel_rfl); (· exact rangeAt_below LH9.out K14.out.b)) | (refine wpList_load_wanted ?_ 25 (.tmp 4) ?_ B 0 ?_ (idL g) _ ?_ Try.underlying25 rfl (szL25 g) ?_; (· kernel_rfl); (· rfl); (· kernel_rfl); (· exact rangeAt_below LG9.out K14.out.b)))
                        refine (CI.out _ K14.out).mono ?_
                        rintro e w15 ⟨rfl, h15⟩
                        have K15 : Hid (Keeps w9 w15) := h15
                        clear h15 K14
                        have z2 := ZI.out
                        have dd : (dE == dE) = true := by simp
                        go_wp2_with fail
                        go_ret
                        exact ⟨rfl, bthen BW9.out K15.out.b⟩
      · go_wp2_with fail
        go_ret
        exact ⟨rfl, bthen B1.out (bthen K2.out.b hb3)⟩
  · go_wp2_with fail
    go_ret
    exact ⟨rfl, bthen B1.out hb2⟩

end Go.Proofs.Qxb6614450a.W
