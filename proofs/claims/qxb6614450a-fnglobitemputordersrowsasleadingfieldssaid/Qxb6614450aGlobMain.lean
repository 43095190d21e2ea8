import Derived.Test.Qxb6614450aGlobCmp
namespace Go.Proofs.Qxb6614450a.W
open Go.RowKit
set_option linter.unusedSimpArgs false

theorem sz37 (G : Glob) : (Try.prog.info? 37).map (·.size) = some (globL G).length := by rw [globL_len]; kernel_rfl

/-- What stands while the law reads: the two items, the row and its two copies. -/
structure Ctx7 (w w' : World) (B r0 ra rb n : Nat) (G K : Glob) (f : Nat → Nat) : Prop where
  bel : Below w.heap.size w w'
  g1 : w'.rangeAt B 0 (globL G)
  g2 : w'.rangeAt (B + 1) 0 (globL K)
  fit : 131 ≤ n
  p0 : Part w' r0 n [] 0 f
  pa : Part w' ra n (rowB G) 0 f
  pb : Part w' rb n (rowB K) 0 f

theorem range_lt {w : World} {b : Nat} {cs : List Value} (h : w.rangeAt b 0 cs) (hc : 0 < cs.length) : b < w.heap.size := by
  have := h 0 _ (List.getElem?_eq_getElem hc)
  exact cell_lt this

theorem Part.lt {w : World} {b n k : Nat} {L : List Nat} {t : Nat → Nat} (h : Part w b n L k t) (hn : 0 < n) : b < w.heap.size := by
  obtain ⟨x, hx⟩ := Option.isSome_iff_exists.1 (h.there 0 hn).1
  exact cell_lt hx

theorem Ctx7.below {w w1 w2 : World} {B r0 ra rb n : Nat} {G K : Glob} {f : Nat → Nat} (h : Ctx7 w w1 B r0 ra rb n G K f) (k : Below w1.heap.size w1 w2) : Ctx7 w w2 B r0 ra rb n G K f := by
  have hn := h.fit
  exact ⟨bthen h.bel k, rangeAt_below h.g1 k, rangeAt_below h.g2 k, h.fit, h.p0.same (k.block _ (h.p0.lt (by omega))), h.pa.same (k.block _ (h.pa.lt (by omega))), h.pb.same (k.block _ (h.pb.lt (by omega)))⟩

theorem Ctx7.ta {w w1 : World} {B r0 ra rb n : Nat} {G K : Glob} {f : Nat → Nat} (h : Ctx7 w w1 B r0 ra rb n G K f) (j : Nat) (h1 : 131 ≤ j) (h2 : j < n) : w1.cell? ⟨ra, j, none⟩ = some (.int .u8 (f j : Nat)) := h.pa.tail j (by rw [rowB_len]; exact h1) h2
theorem Ctx7.tb {w w1 : World} {B r0 ra rb n : Nat} {G K : Glob} {f : Nat → Nat} (h : Ctx7 w w1 B r0 ra rb n G K f) (j : Nat) (h1 : 131 ≤ j) (h2 : j < n) : w1.cell? ⟨rb, j, none⟩ = some (.int .u8 (f j : Nat)) := h.pb.tail j (by rw [rowB_len]; exact h1) h2
theorem Ctx7.t0 {w w1 : World} {B r0 ra rb n : Nat} {G K : Glob} {f : Nat → Nat} (h : Ctx7 w w1 B r0 ra rb n G K f) (j : Nat) (_ : 131 ≤ j) (h2 : j < n) : w1.cell? ⟨r0, j, none⟩ = some (.int .u8 (f j : Nat)) := h.p0.tail j (by simp) h2

theorem row_cells {w : World} {b n : Nat} {G : Glob} {f : Nat → Nat} (h : Part w b n (rowB G) 0 f) (j : Nat) (hj : j < 131) : w.cell? ⟨b, j, none⟩ = some (.int .u8 ((rowB G).getD j 0 : Nat)) := by
  have hl : j < (rowB G).length := by rw [rowB_len]; exact hj
  rw [List.getD, List.getElem?_eq_getElem hl]
  exact h.head j _ (List.getElem?_eq_getElem hl)

theorem row_firsts (G : Glob) : firsts 131 (fun j => (rowB G).getD j 0) = rowB G := by
  have := firsts_getD (rowB G)
  rw [rowB_len] at this
  exact this

set_option maxHeartbeats 8000000 in
set_option maxRecDepth 100000 in
theorem seven_calls (G K : Glob) (hG : G.Ok) (hK : K.Ok) (a : Option Addr) (n c : Nat) (f : Nat → Nat) (w : World) (hn : n ≤ 9223372036854775807) (hrow : 0 < n → ∃ b o, a = some ⟨b, o, none⟩ ∧ ∀ j, j < n → w.cell? ⟨b, o + j, none⟩ = some (.int .u8 (f j : Nat)))
    (hwe : ∀ w, Calls Try.prog 22 #[.agg (globL G).toArray, .agg (globL K).toArray] w fun e w' => ∃ b : Bool, e = .returned (.bool b) ∧ (b = true ↔ same G K) ∧ Below w.heap.size w w') :
    Calls Try.prog 7 #[.agg (globL G).toArray, .agg (globL K).toArray, .slice a n c] w fun e w' => e = .returned (.bool true) ∧ Below w.heap.size w w' := by
  have R1 : Hid (((w.alloc (.cells (globL G).toArray 37)).alloc (.cells (globL K).toArray 37)).rangeAt w.heap.size 0 (globL G)) := rangeAt_below (range_new w _ _) (below_alloc _ _)
  have R2 : Hid (((w.alloc (.cells (globL G).toArray 37)).alloc (.cells (globL K).toArray 37)).rangeAt (w.heap.size + 1) 0 (globL K)) := by have := range_new (w.alloc (.cells (globL G).toArray 37)) (globL K) 37; show World.rangeAt _ _ _ _; simpa using this
  have B1 : Hid (Below w.heap.size w ((w.alloc (.cells (globL G).toArray 37)).alloc (.cells (globL K).toArray 37))) := bthen (below_alloc _ _) (below_alloc _ _)
  have HG : Hid G.Ok := hG
  have HK : Hid K.Ok := hK
  have HWE : Hid (∀ w, Calls Try.prog 22 #[.agg (globL G).toArray, .agg (globL K).toArray] w fun e w' => ∃ b : Bool, e = .returned (.bool b) ∧ (b = true ↔ same G K) ∧ Below w.heap.size w w') := hwe
  have HR : Hid (0 < n → ∃ b o, a = some ⟨b, o, none⟩ ∧ ∀ j, j < n → w.cell? ⟨b, o + j, none⟩ = some (.int .u8 (f j : Nat))) := hrow
  clear hG hK hwe hrow
  go_enter Try.func7, Try.ntmps7
  go_wp2_with (first | (refine wpList_load_mid rfl 37 (.tmp 3) ?_ w.heap.size 0 ?_ (globL G) _ ?_ Try.underlying37 rfl (sz37 G) ?_; (· rfl); (· kernel_rfl); (· exact R1.out)) | (refine wpList_load_mid rfl 37 (.tmp 4) ?_ (w.heap.size + 1) 0 ?_ (globL K) _ ?_ Try.underlying37 rfl (sz37 K) ?_; (· rfl); (· kernel_rfl); (· exact R2.out)))
  generalize (w.alloc (.cells (globL G).toArray 37)).alloc (.cells (globL K).toArray 37) = W1 at *
  obtain ⟨B, hBB⟩ : ∃ B, B = w.heap.size := ⟨_, rfl⟩
  rw [← hBB] at R1 R2
  rw [← hBB]
  clear hBB
  refine (zzBytes16_calls G K a n c W1 hn).mono ?_
  rintro e w2 ⟨rfl | rfl, hb2⟩
  · have K2 : Hid (Below W1.heap.size W1 w2) := hb2
    clear hb2
    by_cases h1 : 1048576 < n
    · have t1 : decide ((1048576 : Int) < (n : Int)) = true := by simp; omega
      go_wp2_with fail
      go_ret
      exact ⟨rfl, bthen B1.out K2.out⟩
    · have t1 : decide ((1048576 : Int) < (n : Int)) = false := by simp; omega
      have hn2 : n ≤ 1048576 := by omega
      by_cases h2 : n < 131
      · have t2 : decide ((n : Int) < 131) = true := by simp; omega
        clear h1
        go_wp2_with fail
        go_ret
        exact ⟨rfl, bthen B1.out K2.out⟩
      · have t2 : decide ((n : Int) < 131) = false := by simp; omega
        have h131 : 131 ≤ n := by omega
        clear h1 h2 hn
        obtain ⟨b, o, rfl, hcs⟩ := HR.out (by omega)
        have HCS : Hid (∀ j, j < n → w.cell? ⟨b, o + j, none⟩ = some (.int .u8 (f j : Nat))) := hcs
        clear hcs HR
        go_wp2_with fail
        refine (copyBytes_calls b o n c f w2 hn2 (fun j hj => by have := HCS.out j hj; rw [(bthen B1.out K2.out).cell (cell_lt this)]; exact this)).mono ?_
        rintro e w3 ⟨rfl, hb3, hs3, hp3⟩
        have K3 : Hid (Below w2.heap.size w2 w3) := hb3
        have P3 : Hid (Part w3 w2.heap.size n [] 0 f) := hp3
        have S3 : Hid (w2.heap.size < w3.heap.size) := hs3
        clear hb3 hs3 hp3
        obtain ⟨r0, hr0⟩ : ∃ r, r = w2.heap.size := ⟨_, rfl⟩
        rw [← hr0] at P3
        rw [← hr0]
        have E0 : Hid (r0 = w2.heap.size) := hr0
        clear hr0
        go_wp2_with fail
        refine (copyBytes_calls r0 0 n n f w3 hn2 (fun j hj => by rw [Nat.zero_add]; exact P3.out.tail j (by simp) hj)).mono ?_
        rintro e w4 ⟨rfl, hb4, hs4, hp4⟩
        have K4 : Hid (Below w3.heap.size w3 w4) := hb4
        have P4 : Hid (Part w4 w3.heap.size n [] 0 f) := hp4
        have S4 : Hid (w3.heap.size < w4.heap.size) := hs4
        have Q4 : Hid (Part w4 r0 n [] 0 f) := P3.out.same (hb4.block r0 (by rw [E0.out]; exact S3.out))
        clear hb4 hs4 hp4
        obtain ⟨ra, hra⟩ : ∃ r, r = w3.heap.size := ⟨_, rfl⟩
        rw [← hra] at P4
        rw [← hra]
        have EA : Hid (ra = w3.heap.size) := hra
        clear hra
        go_wp2_with fail
        refine (copyBytes_calls r0 0 n n f w4 hn2 (fun j hj => by rw [Nat.zero_add]; exact Q4.out.tail j (by simp) hj)).mono ?_
        rintro e w5 ⟨rfl, hb5, hs5, hp5⟩
        have K5 : Hid (Below w4.heap.size w4 w5) := hb5
        have P5 : Hid (Part w5 w4.heap.size n [] 0 f) := hp5
        have S5 : Hid (w4.heap.size < w5.heap.size) := hs5
        have Q5 : Hid (Part w5 r0 n [] 0 f) := Q4.out.same (hb5.block r0 (by rw [E0.out]; have := S3.out; have := S4.out; omega))
        have A5 : Hid (Part w5 ra n [] 0 f) := P4.out.same (hb5.block ra (by rw [EA.out]; exact S4.out))
        have BW : Hid (Below W1.heap.size W1 w5) := bthen K2.out (bthen K3.out (bthen K4.out hb5))
        clear hb5 hs5 hp5
        obtain ⟨rb, hrb⟩ : ∃ r, r = w4.heap.size := ⟨_, rfl⟩
        rw [← hrb] at P5
        rw [← hrb]
        have EB : Hid (rb = w4.heap.size) := hrb
        clear hrb
        have G5 : Hid (w5.rangeAt B 0 (globL G)) := rangeAt_below R1.out BW.out
        have J5 : Hid (w5.rangeAt (B + 1) 0 (globL K)) := rangeAt_below R2.out BW.out
        have O1 : Hid (B < r0 ∧ B + 1 < r0 ∧ W1.heap.size ≤ r0 ∧ r0 < ra ∧ ra < rb ∧ rb < w5.heap.size) := by
          have e0 := E0.out; have ea := EA.out; have eb := EB.out
          have s3 := S3.out; have s4 := S4.out; have s5 := S5.out
          have k2 := K2.out.size
          have l1 := range_lt R1.out (by rw [globL_len]; omega)
          have l2 := range_lt R2.out (by rw [globL_len]; omega)
          show _ ∧ _ ∧ _ ∧ _ ∧ _ ∧ _
          omega
        clear R1 R2 P3 P4 Q4 K3 K4 K5 S3 S4 S5 E0 EA EB K2
        go_wp2_with (first | (refine wpList_load_mid rfl 37 (.tmp 3) ?_ B 0 ?_ (globL G) _ ?_ Try.underlying37 rfl (sz37 G) ?_; (· rfl); (· kernel_rfl); (· exact G5.out)))
        refine (putGlob_calls (w := w5) (t := f) G HG.out (by have := O1.out; omega) A5.out h131).mono ?_
        rintro e w6 ⟨rfl, hg6, hp6⟩
        have K6 : Hid (w5.grownBy w6 (some ra)) := hg6
        have A6 : Hid (Part w6 ra n (rowB G) 0 f) := hp6
        have Q6 : Hid (Part w6 r0 n [] 0 f) := Q5.out.same (hg6.block r0 (by have := O1.out; omega) (by have := O1.out; intro e; simp at e; omega))
        have P6 : Hid (Part w6 rb n [] 0 f) := P5.out.same (hg6.block rb (by have := O1.out; omega) (by have := O1.out; intro e; simp at e; omega))
        have G6 : Hid (w6.rangeAt B 0 (globL G)) := range_grown G5.out (by have := O1.out; omega) hg6
        have J6 : Hid (w6.rangeAt (B + 1) 0 (globL K)) := range_grown J5.out (by have := O1.out; omega) hg6
        clear hg6 hp6 G5 J5 P5 Q5 A5
        go_wp2_with (first | (refine wpList_load_mid rfl 37 (.tmp 4) ?_ (B + 1) 0 ?_ (globL K) _ ?_ Try.underlying37 rfl (sz37 K) ?_; (· rfl); (· kernel_rfl); (· exact J6.out)))
        refine (putGlob_calls (w := w6) (t := f) K HK.out (by have := O1.out; have := K6.out.size; omega) P6.out h131).mono ?_
        rintro e w7 ⟨rfl, hg7, hp7⟩
        have X7 : Hid (Ctx7 w w7 B r0 ra rb n G K f) := by
          have o := O1.out
          have s6 := K6.out.size
          exact ⟨Below.grown (Below.grown (bthen B1.out BW.out) K6.out (by have := (bthen B1.out BW.out).size; exact this) (fun k hk => by simp at hk; have := B1.out.size; omega)) hg7 (by have := (bthen B1.out BW.out).size; omega) (fun k hk => by simp at hk; have := B1.out.size; omega),
            range_grown G6.out (by omega) hg7, range_grown J6.out (by omega) hg7, h131, Q6.out.same (hg7.block r0 (by omega) (by intro e; simp at e; omega)), A6.out.same (hg7.block ra (by omega) (by intro e; simp at e; omega)), hp7⟩
        clear hg7 hp7 G6 J6 P6 Q6 A6 K6 O1 BW B1 HCS
        go_wp2_with fail
        have CC : Hid (∀ W', Keeps w7 W' → Calls Try.prog 19 #[.slice (some ⟨ra, 0, none⟩) 131 n, .slice (some ⟨rb, 0, none⟩) 131 n] W' fun e w' => e = .returned (.int .i64 (cmpL (rowB G) (rowB K))) ∧ Keeps w7 w') := fun W' hW => by
          have x := X7.out.below hW.b
          have := cmpBytes_calls ra rb n n (fun j => (rowB G).getD j 0) (fun j => (rowB K).getD j 0) W' (row_cells x.pa) (row_cells x.pb)
          rw [row_firsts, row_firsts] at this
          exact this.mono fun e w' h => ⟨h.1, ⟨bthen hW.b h.2⟩⟩
        have CR : Hid (cmpL (rowB G) (rowB K) = if lead G K = 0 then cmpL (entB G ++ idB G.bid) (entB K ++ idB K.bid) else lead G K) := cmpL_row G K
        have CS : Hid (cmpL (rowB G) (rowB K) = 0 ↔ same G K) := cmpL_same HG.out HK.out
        have hni : (131 : Int) ≤ (n : Int) := by omega
        generalize cmpL (rowB G) (rowB K) = c at *
        refine wp_region_held_drew (S := fun w' => Keeps w7 w') (by kernel_rfl) ⟨(Below.refl _ w7).drew⟩ (fun hHeld => ?_)
        refine wpAnyH_take (i := 0) (v := .slice (some ⟨ra, 0, none⟩) n n) rfl (by kernel_rfl) (by kernel_rfl) (by kernel_rfl) (fun _ _ _ h => h) (Or.inl ⟨by kernel_rfl, fun w hSw => by go_simp⟩) (by assumption) ?_
        change wpAnyH _ _ _ _ _ _ _ (Act.put _ (some 34) _) _
        try simp only [Act.put, List.setIfInBounds_toArray, List.set_cons_zero, List.set_cons_succ]
        refine wpAnyH_take (i := 1) (v := .slice (some ⟨ra, 0, none⟩) 131 n) rfl (by kernel_rfl) (by kernel_rfl) (by kernel_rfl) (fun _ _ _ h => h) (Or.inl ⟨by kernel_rfl, fun w hSw => by go_simp⟩) (by assumption) ?_
        change wpAnyH _ _ _ _ _ _ _ (Act.put _ (some 35) _) _
        try simp only [Act.put, List.setIfInBounds_toArray, List.set_cons_zero, List.set_cons_succ]
        refine wpAnyH_take (i := 2) (v := .slice (some ⟨rb, 0, none⟩) n n) rfl (by kernel_rfl) (by kernel_rfl) (by kernel_rfl) (fun _ _ _ h => h) (Or.inl ⟨by kernel_rfl, fun w hSw => by go_simp⟩) (by assumption) ?_
        change wpAnyH _ _ _ _ _ _ _ (Act.put _ (some 36) _) _
        try simp only [Act.put, List.setIfInBounds_toArray, List.set_cons_zero, List.set_cons_succ]
        refine wpAnyH_take (i := 3) (v := .slice (some ⟨rb, 0, none⟩) 131 n) rfl (by kernel_rfl) (by kernel_rfl) (by kernel_rfl) (fun _ _ _ h => h) (Or.inl ⟨by kernel_rfl, fun w hSw => by go_simp⟩) (by assumption) ?_
        change wpAnyH _ _ _ _ _ _ _ (Act.put _ (some 37) _) _
        try simp only [Act.put, List.setIfInBounds_toArray, List.set_cons_zero, List.set_cons_succ]
        refine wpAnyH_ready (rs := [4]) (by kernel_rfl) (by simp) ?_
        refine AllReadyH.cons (o := _) rfl (fun K hK => ?_) AllReadyH.nil
        rw [if_pos (by kernel_rfl)]
        go_simp
        refine (CC.out _ (by assumption)).mono ?_
        rintro e w8 ⟨rfl, hw8⟩
        refine hK.out _ _ (hw8) (fun hHeldw8 => ?_)
        clear hK K
        try simp only [Act.put, List.setIfInBounds_toArray, List.set_cons_zero, List.set_cons_succ]
        refine wpAnyH_take (i := 5) (v := .int .i64 c) rfl (by kernel_rfl) (by kernel_rfl) (by kernel_rfl) (fun _ _ _ h => h) (Or.inl ⟨by kernel_rfl, fun w hSw => by go_simp⟩) (by assumption) ?_
        change wpAnyH _ _ _ _ _ _ _ (Act.put _ (some 9) _) _
        try simp only [Act.put, List.setIfInBounds_toArray, List.set_cons_zero, List.set_cons_succ]
        refine wpAnyH_done (by kernel_rfl) ?_ _
        have X8 : Hid (Ctx7 w w8 B r0 ra rb n G K f) := X7.out.below hw8.b
        clear hw8 CC hHeld hHeldw8 X7 hni
        have c0 := glob_cell X8.out.g1 0 _ rfl
        have c1 := glob_cell X8.out.g1 1 _ rfl
        have c2 := glob_cell X8.out.g1 2 _ rfl
        have c3 := glob_cell X8.out.g1 3 _ rfl
        have d0 := glob_cell X8.out.g2 0 _ rfl
        have d1 := glob_cell X8.out.g2 1 _ rfl
        have d2 := glob_cell X8.out.g2 2 _ rfl
        have d3 := glob_cell X8.out.g2 3 _ rfl
        have uk := u64_wrap G.key
        have uk' := u64_wrap K.key
        have ub := u64_wrap G.base
        have ub' := u64_wrap K.base
        have ue := u64_wrap G.entry
        have ue' := u64_wrap K.entry
        have LE : Hid (lead G K = (let a := cmp3 (u64 G.key) (u64 K.key); let b := if a = 0 then cmp3 (u64 G.base) (u64 K.base) else a; let c := if b = 0 then cmpB G.wait K.wait else b; if c = 0 then cmp3 (u64 G.entry) (u64 K.entry) else c)) := rfl
        generalize lead G K = ld at *
        have UA := fun W' => cmpU64_calls (u64 G.key) (u64 K.key) W'
        have UB := fun W' => cmpU64_calls (u64 G.base) (u64 K.base) W'
        have UE := fun W' => cmpU64_calls (u64 G.entry) (u64 K.entry) W'
        have UW := fun W' => cmpBool_calls G.wait K.wait W'
        generalize cmp3 (u64 G.key) (u64 K.key) = lA at *
        generalize cmp3 (u64 G.base) (u64 K.base) = lB at *
        generalize cmp3 (u64 G.entry) (u64 K.entry) = lE at *
        generalize cmpB G.wait K.wait = lW at *
        generalize u64 G.key = vk at *
        generalize u64 K.key = vk' at *
        generalize u64 G.base = vb at *
        generalize u64 K.base = vb' at *
        generalize u64 G.entry = ve at *
        generalize u64 K.entry = ve' at *
        have HUA : Hid (∀ W' : World, Calls Try.prog 20 #[.int .u64 (vk : Nat), .int .u64 (vk' : Nat)] W' fun e w' => e = .returned (.int .i64 lA) ∧ w' = W') := UA
        have HUB : Hid (∀ W' : World, Calls Try.prog 20 #[.int .u64 (vb : Nat), .int .u64 (vb' : Nat)] W' fun e w' => e = .returned (.int .i64 lB) ∧ w' = W') := UB
        have HUE : Hid (∀ W' : World, Calls Try.prog 20 #[.int .u64 (ve : Nat), .int .u64 (ve' : Nat)] W' fun e w' => e = .returned (.int .i64 lE) ∧ w' = W') := UE
        have HUW : Hid (∀ W' : World, Calls Try.prog 21 #[.bool G.wait, .bool K.wait] W' fun e w' => e = .returned (.int .i64 lW) ∧ w' = W') := UW
        clear UA UB UE UW
        go_wp2_with fail
        refine (HUA.out _).mono ?_
        rintro e w9 ⟨rfl, rfl⟩
        by_cases hA : lA = 0
        · subst hA
          go_wp2_with fail
          refine (HUB.out _).mono ?_
          rintro e w10 ⟨rfl, rfl⟩
          by_cases hB : lB = 0
          · subst hB
            go_wp2_with fail
            refine (HUW.out _).mono ?_
            rintro e w11 ⟨rfl, rfl⟩
            by_cases hW : lW = 0
            · subst hW
              go_wp2_with fail
              refine (HUE.out _).mono ?_
              rintro e w12 ⟨rfl, rfl⟩
              by_cases hE : lE = 0
              · subst hE
                by_cases hc0 : c = 0
                · subst hc0
                  have HS : same G K := CS.out.1 rfl
                  clear c0 c1 c2 c3 d0 d1 d2 d3 uk uk' ub ub' ue ue' HUA HUB HUE HUW CR LE CS
                  go_wp2_with (first | (refine wpList_load_mid rfl 37 (.tmp 3) ?_ B 0 ?_ (globL G) _ ?_ Try.underlying37 rfl (sz37 G) ?_; (· rfl); (· kernel_rfl); (· exact X8.out.g1)) | (refine wpList_load_mid rfl 37 (.tmp 4) ?_ (B + 1) 0 ?_ (globL K) _ ?_ Try.underlying37 rfl (sz37 K) ?_; (· rfl); (· kernel_rfl); (· exact X8.out.g2)))
                  refine (HWE.out _).mono ?_
                  rintro e wa ⟨bb, rfl, hbb, hba⟩
                  have XA : Hid (Ctx7 w wa B r0 ra rb n G K f) := X8.out.below hba
                  have hv : bb = true := hbb.2 HS
                  subst hv
                  clear hba hbb
                  go_wp2_with fail
                  refine (tailKept_calls ra r0 n n n f _ hn2 h131 XA.out.ta XA.out.t0).mono ?_
                  rintro e wb ⟨rfl, hbb⟩
                  have XB : Hid (Ctx7 w wb B r0 ra rb n G K f) := XA.out.below hbb
                  clear hbb
                  go_wp2_with fail
                  refine (tailKept_calls rb r0 n n n f _ hn2 h131 XB.out.tb XB.out.t0).mono ?_
                  rintro e wc ⟨rfl, hbb⟩
                  have XC : Hid (Ctx7 w wc B r0 ra rb n G K f) := XB.out.below hbb
                  clear hbb
                  go_wp2_with fail
                  go_ret
                  exact ⟨rfl, XC.out.bel⟩
                · have HS : ¬ same G K := fun h => hc0 (CS.out.2 h)
                  have z1 : (c == 0) = false := by simpa using hc0
                  clear c0 c1 c2 c3 d0 d1 d2 d3 uk uk' ub ub' ue ue' HUA HUB HUE HUW CR LE CS
                  go_wp2_with (first | (refine wpList_load_mid rfl 37 (.tmp 3) ?_ B 0 ?_ (globL G) _ ?_ Try.underlying37 rfl (sz37 G) ?_; (· rfl); (· kernel_rfl); (· exact X8.out.g1)) | (refine wpList_load_mid rfl 37 (.tmp 4) ?_ (B + 1) 0 ?_ (globL K) _ ?_ Try.underlying37 rfl (sz37 K) ?_; (· rfl); (· kernel_rfl); (· exact X8.out.g2)))
                  refine (HWE.out _).mono ?_
                  rintro e wa ⟨bb, rfl, hbb, hba⟩
                  have XA : Hid (Ctx7 w wa B r0 ra rb n G K f) := X8.out.below hba
                  have hv : bb = false := by cases bb with | false => rfl | true => exact absurd (hbb.1 rfl) HS
                  subst hv
                  clear hba hbb
                  go_wp2_with fail
                  refine (tailKept_calls ra r0 n n n f _ hn2 h131 XA.out.ta XA.out.t0).mono ?_
                  rintro e wb ⟨rfl, hbb⟩
                  have XB : Hid (Ctx7 w wb B r0 ra rb n G K f) := XA.out.below hbb
                  clear hbb
                  go_wp2_with fail
                  refine (tailKept_calls rb r0 n n n f _ hn2 h131 XB.out.tb XB.out.t0).mono ?_
                  rintro e wc ⟨rfl, hbb⟩
                  have XC : Hid (Ctx7 w wc B r0 ra rb n G K f) := XB.out.below hbb
                  clear hbb
                  go_wp2_with fail
                  go_ret
                  exact ⟨rfl, XC.out.bel⟩
              · clear c0 c1 c2 c3 d0 d1 d2 d3 uk uk' ub ub' ue ue' HUA HUB HUE HUW
                have hld : ld = lE := by rw [LE.out]; simp [hE]
                have hc : c = lE := by rw [CR.out, hld, if_neg hE]
                subst hc
                have HS : ¬ same G K := fun h => hE (CS.out.2 h)
                have z1 : (c == 0) = false := by simpa using hE
                clear hld CR LE CS
                go_wp2_with (first | (refine wpList_load_mid rfl 37 (.tmp 3) ?_ B 0 ?_ (globL G) _ ?_ Try.underlying37 rfl (sz37 G) ?_; (· rfl); (· kernel_rfl); (· exact X8.out.g1)) | (refine wpList_load_mid rfl 37 (.tmp 4) ?_ (B + 1) 0 ?_ (globL K) _ ?_ Try.underlying37 rfl (sz37 K) ?_; (· rfl); (· kernel_rfl); (· exact X8.out.g2)))
                refine (HWE.out _).mono ?_
                rintro e wa ⟨bb, rfl, hbb, hba⟩
                have XA : Hid (Ctx7 w wa B r0 ra rb n G K f) := X8.out.below hba
                have hv : bb = false := by cases bb with | false => rfl | true => exact absurd (hbb.1 rfl) HS
                subst hv
                clear hba hbb
                go_wp2_with fail
                refine (tailKept_calls ra r0 n n n f _ hn2 h131 XA.out.ta XA.out.t0).mono ?_
                rintro e wb ⟨rfl, hbb⟩
                have XB : Hid (Ctx7 w wb B r0 ra rb n G K f) := XA.out.below hbb
                clear hbb
                go_wp2_with fail
                refine (tailKept_calls rb r0 n n n f _ hn2 h131 XB.out.tb XB.out.t0).mono ?_
                rintro e wc ⟨rfl, hbb⟩
                have XC : Hid (Ctx7 w wc B r0 ra rb n G K f) := XB.out.below hbb
                clear hbb
                go_wp2_with fail
                go_ret
                exact ⟨rfl, XC.out.bel⟩
            · clear c0 c1 c2 c3 d0 d1 d2 d3 uk uk' ub ub' ue ue' HUA HUB HUE HUW
              have hld : ld = lW := by rw [LE.out]; simp [hW]
              have hc : c = lW := by rw [CR.out, hld, if_neg hW]
              subst hc
              have HS : ¬ same G K := fun h => hW (CS.out.2 h)
              have z1 : (c == 0) = false := by simpa using hW
              clear hld CR LE CS
              go_wp2_with (first | (refine wpList_load_mid rfl 37 (.tmp 3) ?_ B 0 ?_ (globL G) _ ?_ Try.underlying37 rfl (sz37 G) ?_; (· rfl); (· kernel_rfl); (· exact X8.out.g1)) | (refine wpList_load_mid rfl 37 (.tmp 4) ?_ (B + 1) 0 ?_ (globL K) _ ?_ Try.underlying37 rfl (sz37 K) ?_; (· rfl); (· kernel_rfl); (· exact X8.out.g2)))
              refine (HWE.out _).mono ?_
              rintro e wa ⟨bb, rfl, hbb, hba⟩
              have XA : Hid (Ctx7 w wa B r0 ra rb n G K f) := X8.out.below hba
              have hv : bb = false := by cases bb with | false => rfl | true => exact absurd (hbb.1 rfl) HS
              subst hv
              clear hba hbb
              go_wp2_with fail
              refine (tailKept_calls ra r0 n n n f _ hn2 h131 XA.out.ta XA.out.t0).mono ?_
              rintro e wb ⟨rfl, hbb⟩
              have XB : Hid (Ctx7 w wb B r0 ra rb n G K f) := XA.out.below hbb
              clear hbb
              go_wp2_with fail
              refine (tailKept_calls rb r0 n n n f _ hn2 h131 XB.out.tb XB.out.t0).mono ?_
              rintro e wc ⟨rfl, hbb⟩
              have XC : Hid (Ctx7 w wc B r0 ra rb n G K f) := XB.out.below hbb
              clear hbb
              go_wp2_with fail
              go_ret
              exact ⟨rfl, XC.out.bel⟩
          · clear c0 c1 c2 c3 d0 d1 d2 d3 uk uk' ub ub' ue ue' HUA HUB HUE HUW
            have hld : ld = lB := by rw [LE.out]; simp [hB]
            have hc : c = lB := by rw [CR.out, hld, if_neg hB]
            subst hc
            have HS : ¬ same G K := fun h => hB (CS.out.2 h)
            have z1 : (c == 0) = false := by simpa using hB
            clear hld CR LE CS
            go_wp2_with (first | (refine wpList_load_mid rfl 37 (.tmp 3) ?_ B 0 ?_ (globL G) _ ?_ Try.underlying37 rfl (sz37 G) ?_; (· rfl); (· kernel_rfl); (· exact X8.out.g1)) | (refine wpList_load_mid rfl 37 (.tmp 4) ?_ (B + 1) 0 ?_ (globL K) _ ?_ Try.underlying37 rfl (sz37 K) ?_; (· rfl); (· kernel_rfl); (· exact X8.out.g2)))
            refine (HWE.out _).mono ?_
            rintro e wa ⟨bb, rfl, hbb, hba⟩
            have XA : Hid (Ctx7 w wa B r0 ra rb n G K f) := X8.out.below hba
            have hv : bb = false := by cases bb with | false => rfl | true => exact absurd (hbb.1 rfl) HS
            subst hv
            clear hba hbb
            go_wp2_with fail
            refine (tailKept_calls ra r0 n n n f _ hn2 h131 XA.out.ta XA.out.t0).mono ?_
            rintro e wb ⟨rfl, hbb⟩
            have XB : Hid (Ctx7 w wb B r0 ra rb n G K f) := XA.out.below hbb
            clear hbb
            go_wp2_with fail
            refine (tailKept_calls rb r0 n n n f _ hn2 h131 XB.out.tb XB.out.t0).mono ?_
            rintro e wc ⟨rfl, hbb⟩
            have XC : Hid (Ctx7 w wc B r0 ra rb n G K f) := XB.out.below hbb
            clear hbb
            go_wp2_with fail
            go_ret
            exact ⟨rfl, XC.out.bel⟩
        · clear c0 c1 c2 c3 d0 d1 d2 d3 uk uk' ub ub' ue ue' HUA HUB HUE HUW
          have hld : ld = lA := by rw [LE.out]; simp [hA]
          have hc : c = lA := by rw [CR.out, hld, if_neg hA]
          subst hc
          have HS : ¬ same G K := fun h => hA (CS.out.2 h)
          have z1 : (c == 0) = false := by simpa using hA
          clear hld CR LE CS
          go_wp2_with (first | (refine wpList_load_mid rfl 37 (.tmp 3) ?_ B 0 ?_ (globL G) _ ?_ Try.underlying37 rfl (sz37 G) ?_; (· rfl); (· kernel_rfl); (· exact X8.out.g1)) | (refine wpList_load_mid rfl 37 (.tmp 4) ?_ (B + 1) 0 ?_ (globL K) _ ?_ Try.underlying37 rfl (sz37 K) ?_; (· rfl); (· kernel_rfl); (· exact X8.out.g2)))
          refine (HWE.out _).mono ?_
          rintro e wa ⟨bb, rfl, hbb, hba⟩
          have XA : Hid (Ctx7 w wa B r0 ra rb n G K f) := X8.out.below hba
          have hv : bb = false := by cases bb with | false => rfl | true => exact absurd (hbb.1 rfl) HS
          subst hv
          clear hba hbb
          go_wp2_with fail
          refine (tailKept_calls ra r0 n n n f _ hn2 h131 XA.out.ta XA.out.t0).mono ?_
          rintro e wb ⟨rfl, hbb⟩
          have XB : Hid (Ctx7 w wb B r0 ra rb n G K f) := XA.out.below hbb
          clear hbb
          go_wp2_with fail
          refine (tailKept_calls rb r0 n n n f _ hn2 h131 XB.out.tb XB.out.t0).mono ?_
          rintro e wc ⟨rfl, hbb⟩
          have XC : Hid (Ctx7 w wc B r0 ra rb n G K f) := XB.out.below hbb
          clear hbb
          go_wp2_with fail
          go_ret
          exact ⟨rfl, XC.out.bel⟩
  · go_wp2_with fail
    go_ret
    exact ⟨rfl, bthen B1.out hb2⟩

end Go.Proofs.Qxb6614450a.W
