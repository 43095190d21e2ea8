import Derived.Test.Qxb6613752aDoorCtx
import Derived.Deep.RegionHeld
namespace Go.Proofs.Qxb6613752aDoor.W
open Go.RowKit

/-- What comes in. -/
structure Came (w : World) (a0 a1 a2 a3 a4 : Option Addr) (n0 c0 n1 c1 n2 n3 n4 : Nat) (A : Nat → Option Addr) (Ln C : Nat → Nat) (l : Nat → List UInt8) (sl : List UInt8) (op : Nat → Int) (mk : Nat → Bool) (h : Nat → Int) : Prop where
  tab : Tab w
  src : Sl w (.slice a0 n0 c0) sl
  z0 : a0 = none → n0 = 0 ∧ c0 = 0
  nm : Nms w a1 n1 A Ln C l
  nm0 : a1 = none → n1 = 0 ∧ c1 = 0
  nmi : ∀ i, i < n1 → A i = none → Ln i = 0 ∧ C i = 0
  ops : Row w a2 n2 (fun i => .int .i32 (op i))
  opb : ∀ i, i < n2 → -2147483648 ≤ op i ∧ op i ≤ 2147483647
  mks : Row w a3 n3 (fun i => .bool (mk i))
  hs : Row w a4 n4 (fun i => .int .u64 (h i))
  hb : ∀ i, i < n4 → 0 ≤ h i ∧ h i < 18446744073709551616

set_option maxHeartbeats 1000000 in
set_option maxRecDepth 100000 in
theorem main_calls (a0 a1 a2 a3 a4 : Option Addr) (n0 c0 n1 c1 n2 c2 n3 c3 n4 c4 : Nat) (N cut : Int) (A : Nat → Option Addr) (Ln C : Nat → Nat) (l : Nat → List UInt8) (sl : List UInt8) (op : Nat → Int) (mk : Nat → Bool) (h : Nat → Int) (w : World)
    (h0 : n0 ≤ 9223372036854775807) (h1 : n1 ≤ 9223372036854775807) (h2 : n2 ≤ 9223372036854775807) (h3 : n3 ≤ 9223372036854775807) (h4 : n4 ≤ 9223372036854775807)
    (hN : -9223372036854775808 ≤ N ∧ N ≤ 9223372036854775807) (hcut : -9223372036854775808 ≤ cut ∧ cut ≤ 9223372036854775807)
    (H0 : Came w a0 a1 a2 a3 a4 n0 c0 n1 c1 n2 n3 n4 A Ln C l sl op mk h) :
    Calls Tryd.prog 4 #[.slice a0 n0 c0, .slice a1 n1 c1, .slice a2 n2 c2, .slice a3 n3 c3, .slice a4 n4 c4, .int .i64 N, .int .i64 cut] w fun e w' => e = .returned (.bool true) ∧ Below w.heap.size w w' := by
  have H : Hid (Came w a0 a1 a2 a3 a4 n0 c0 n1 c1 n2 n3 n4 A Ln C l sl op mk h) := H0
  clear H0
  go_enter Tryd.func4, Tryd.ntmps4
  go_wp2_with fail
  refine (zzBytes_calls a0 a1 a2 a3 a4 n0 c0 n1 c1 n2 c2 n3 c3 n4 c4 N cut A Ln C w h0 h1 h2 h3 h4 H.out.nm.row H.out.nm.le).mono ?_
  rintro e w' ⟨⟨rfl, hs⟩ | rfl, hw⟩
  · subst hw
    have HS : Hid (Short n0 n1 Ln) := hs
    obtain ⟨hs0, hs1, _⟩ := hs
    clear h0 h1
    by_cases hbig : 65536 < n1 ∨ 65536 < n2 ∨ 65536 < n3 ∨ 65536 < n4
    · have t0 : decide ((1048576 : Int) < (n0 : Int)) = false := by simp; omega
      by_cases b1 : 65536 < n1
      · have t1 : decide ((65536 : Int) < (n1 : Int)) = true := by simp; omega
        go_wp2_with fail
        go_ret
        exact ⟨rfl, Below.refl _ _⟩
      have t1 : decide ((65536 : Int) < (n1 : Int)) = false := by simp; omega
      by_cases b2 : 65536 < n2
      · have t2 : decide ((65536 : Int) < (n2 : Int)) = true := by simp; omega
        go_wp2_with fail
        go_ret
        exact ⟨rfl, Below.refl _ _⟩
      have t2 : decide ((65536 : Int) < (n2 : Int)) = false := by simp; omega
      by_cases b3 : 65536 < n3
      · have t3 : decide ((65536 : Int) < (n3 : Int)) = true := by simp; omega
        go_wp2_with fail
        go_ret
        exact ⟨rfl, Below.refl _ _⟩
      have t3 : decide ((65536 : Int) < (n3 : Int)) = false := by simp; omega
      have t4 : decide ((65536 : Int) < (n4 : Int)) = true := by simp; omega
      go_wp2_with fail
      go_ret
      exact ⟨rfl, Below.refl _ _⟩
    · have t0 : decide ((1048576 : Int) < (n0 : Int)) = false := by simp; omega
      have t1 : decide ((65536 : Int) < (n1 : Int)) = false := by simp; omega
      have t2 : decide ((65536 : Int) < (n2 : Int)) = false := by simp; omega
      have t3 : decide ((65536 : Int) < (n3 : Int)) = false := by simp; omega
      have t4 : decide ((65536 : Int) < (n4 : Int)) = false := by simp; omega
      clear h2 h3 h4
      by_cases hsum : 1048576 < n0 + 24 * n1 + 4 * n2 + n3 + 8 * n4
      · go_wp2_with fail
        go_ret
        exact ⟨rfl, Below.refl _ _⟩
      · go_wp2_with fail
        have m1 : n1 ≤ 65536 := by omega
        have m2 : n2 ≤ 65536 := by omega
        have m3 : n3 ≤ 65536 := by omega
        have m4 : n4 ≤ 65536 := by omega
        go_loop [15, 16] (fun q i => ∃ (k : Nat) (s : Nat), k ≤ n1 ∧ i = .int .i64 k ∧ q = .int .i64 s ∧ s ≤ 1048576) (fun _ i => n1 - (intOf i).toNat)
        case atStart => exact ⟨0, n0 + 24 * n1 + 4 * n2 + n3 + 8 * n4, Nat.zero_le _, rfl, by go_num, by omega⟩
        case round =>
          obtain ⟨k, s, hk, rfl, rfl, hs1⟩ := hrel
          by_cases hlt : k < n1
          · obtain ⟨b, o, rfl, hc⟩ := H.out.nm.row (by omega)
            have c1 : w'.cell? ⟨b, o + k, none⟩ = some (.slice (A k) (Ln k) (C k)) := hc k hlt
            have hlk := HS.out.2.2 k hlt
            clear hc
            generalize A k = Ak at *
            generalize Ln k = Lk at *
            generalize C k = Ck at *
            by_cases hbad : 1048576 < s + Lk
            · go_wp2_with fail
              go_ret
              exact ⟨rfl, Below.refl _ _⟩
            · go_wp2_with fail
              go_round
              case rel => exact ⟨k + 1, s + Lk, by omega, by go_num, by go_num, by omega⟩
              case measure => simp [intOf]; omega
          · clear hsum hbig
            go_wp2_with fail
            have hrz := H.out.src.row
            refine (batchFits_calls a0 a1 a2 a3 a4 n0 c0 n1 c1 n2 c2 n3 c3 n4 c4 N A Ln C l (fun i => (sl.getD i 0).toNat) op h w' hs0 (by omega) (by omega) (by omega) (by omega) hN hrz.2 H.out.nm HS.out.2.2 H.out.ops H.out.opb H.out.hs).mono ?_
            rintro e w2 ⟨⟨rfl, hf⟩ | rfl, nd, rfl⟩
            · have HF : Hid (Fits n0 n1 n2 n3 n4 N (fun i => (sl.getD i 0).toNat) l op h) := hf
              have HRL : Hid (n0 = sl.length) := hrz.1
              clear hf hrz
              by_cases hc : cut < 0 ∨ (n1 : Int) < cut
              · by_cases hc0 : cut < 0
                · have s1 : decide (cut < 0) = true := by simpa using hc0
                  go_wp2_with fail
                  go_ret
                  exact ⟨rfl, below_drewN _ _⟩
                · have s1 : decide (cut < 0) = false := by simpa using hc0
                  have s2 : decide ((n1 : Int) < cut) = true := by simp; omega
                  go_wp2_with fail
                  go_ret
                  exact ⟨rfl, below_drewN _ _⟩
              · have s1 : decide (cut < 0) = false := by simp; omega
                have s2 : decide ((n1 : Int) < cut) = false := by simp; omega
                obtain ⟨ct, rfl⟩ : ∃ ct : Nat, cut = ct := ⟨cut.toNat, by omega⟩
                have hN1 := HF.out.N1
                have hN2 := HF.out.N2
                obtain ⟨NN, rfl⟩ : ∃ NN : Nat, N = NN := ⟨N.toNat, by omega⟩
                have hct : ct ≤ n1 := by omega
                have hn16 := HF.out.n16
                have hNN : n1 < NN := by omega
                have hNN2 : NN ≤ 65536 := by omega
                have W0 : Hid (Below w'.heap.size w' (w'.drewN nd)) := below_drewN _ _
                clear hN1 hN2 hc hN hcut
                go_wp2_with fail
                refine (cloneBytes_calls a0 n0 c0 sl _ (H.out.src.below W0.out) H.out.z0 hs0 0 (by have := H.out.tab.lt; simp; omega)).mono ?_
                rintro e w2 ⟨a0', rfl, hb2, hsl2, hz2, _⟩
                have W2 : Hid (Below w'.heap.size w' w2) := W0.out.trans (hb2.mono W0.out.size)
                have S2 : Hid (Sl w2 (.slice a0' n0 n0) sl ∧ (a0' = none → n0 = 0 ∧ n0 = 0)) := ⟨hsl2.sl, fun e => ⟨hz2 e, hz2 e⟩⟩
                clear hb2 hsl2 hz2
                go_wp2_with fail
                refine (cloneNames_calls a1 n1 c1 A Ln C l w2 m1 (H.out.nm.below W2.out) H.out.nm0 H.out.nmi HS.out.2.2).mono ?_
                rintro e w3 ⟨a1', A1, rfl, hb3, hnm3, hz3, hi3⟩
                have W3 : Hid (Below w'.heap.size w' w3) := W2.out.trans (hb3.mono W2.out.size)
                have S3 : Hid (Sl w3 (.slice a0' n0 n0) sl ∧ (a0' = none → n0 = 0 ∧ n0 = 0)) := ⟨S2.out.1.below hb3, S2.out.2⟩
                have M3 : Hid (Nms w3 a1' n1 A1 Ln Ln l ∧ (a1' = none → n1 = 0 ∧ n1 = 0) ∧ ∀ i, i < n1 → A1 i = none → Ln i = 0 ∧ Ln i = 0) := ⟨hnm3, hz3, hi3⟩
                clear hb3 hnm3 hz3 hi3 S2 W0 W2
                go_wp2_with fail
                refine (cloneNames_calls a1' n1 n1 A1 Ln Ln l w3 m1 M3.out.1 M3.out.2.1 M3.out.2.2 HS.out.2.2).mono ?_
                rintro e w4 ⟨ag, Ag, rfl, hb4, hnm4, hz4, hi4⟩
                have W4 : Hid (Below w'.heap.size w' w4) := W3.out.trans (hb4.mono W3.out.size)
                have S4 : Hid (Sl w4 (.slice a0' n0 n0) sl ∧ (a0' = none → n0 = 0 ∧ n0 = 0)) := ⟨S3.out.1.below hb4, S3.out.2⟩
                have M4 : Hid (Nms w4 a1' n1 A1 Ln Ln l) := M3.out.1.below hb4
                have G4 : Hid (Nms w4 ag n1 Ag Ln Ln l) := hnm4
                clear hb4 hnm4 hz4 hi4 S3 M3 W3
                go_wp2_with fail
                refine (cloneBytes_calls a0' n0 n0 sl w4 S4.out.1 S4.out.2 hs0 0 (by have := H.out.tab.lt; have := W4.out.size; omega)).mono ?_
                rintro e w5 ⟨s1', rfl, hb5, hsl5, hz5, hs5⟩
                have W5 : Hid (Below w'.heap.size w' w5) := W4.out.trans (hb5.mono W4.out.size)
                have S5 : Hid (Sl w5 (.slice a0' n0 n0) sl ∧ (a0' = none → n0 = 0 ∧ n0 = 0)) := ⟨S4.out.1.below hb5, S4.out.2⟩
                have M5 : Hid (Nms w5 a1' n1 A1 Ln Ln l) := M4.out.below hb5
                obtain ⟨E, hE⟩ : ∃ E : Nat → Ent, E = fun i => ⟨Ag i, Ln i, Ln i, l i, (op i).toNat, mk i, (h i).toNat⟩ := ⟨_, rfl⟩
                have C5 : Hid (Ctx w5.heap.size w5 ag a2 a3 a4 n1 E) := by
                  rw [hE]
                  exact ctx_of HF.out H.out.hb (H.out.tab.below W5.out H.out.tab.lt) (G4.out.below hb5) (H.out.ops.below W5.out) (H.out.mks.below W5.out) (H.out.hs.below W5.out)
                have PL : Hid (Plain NN n0 n1 (fun i => (sl.getD i 0).toNat) E) := by
                  rw [hE]
                  exact plain_of HF.out hs0 H.out.hb Ag Ln mk
                have HEl : Hid ((fun i => (E i).l) = l) := by
                  rw [hE]
                  rfl
                have V5 : Hid (0 < n1 → ∃ g, s1' = some ⟨g, 0, none⟩ ∧ Bytes w5 g 0 n0 (fun i => (sl.getD i 0).toNat) ∧ g < w5.heap.size) := by
                  intro hn0
                  have hp0 : 0 < n0 := by have := (PL.out.cl 0 hn0).1; omega
                  have e := hs5 hp0
                  subst e
                  exact ⟨w4.heap.size, rfl, bytes_of hsl5.sl, (bytes_of hsl5.sl).lt hp0⟩
                clear hb5 hsl5 hz5 hs5 S4 M4 G4 W4 hE
                have ZB : Hid (∀ {w : World} {g n c : Nat}, Sl w (.slice (some ⟨g, 0, none⟩) n c) sl → Bytes w g 0 n (fun i => (sl.getD i 0).toNat)) := fun h => bytes_of h
                generalize (fun i => (sl.getD i 0).toNat) = z at *
                go_wp2_with fail
                refine (newNameSet_calls NN ((n0 + 63) / 64) s1' n0 n0 w5 hNN2).mono ?_
                rintro e w6 ⟨rfl, hb6, bf6, hns6⟩
                have N6 : Hid (NS w6 w5.heap.size (w5.heap.size + 2) w5.heap.size (w5.heap.size + 1) NN ((n0 + 63) / 64) (.slice s1' n0 n0) bf6 0 0 (fun _ => (0, 0)) none) := hns6
                have B6 : Hid (Below w5.heap.size w5 w6) := hb6
                clear hb6 hns6
                go_wp2_with fail
                generalize w5.heap.size + 2 = nb1 at *
                generalize w5.heap.size + 1 = db1 at *
                go_loopg [20] n1 (fun gk i wr => ∃ q : Nat, q ≤ n1 ∧ i = .int .i64 q ∧ Hid (q + gk = n1) ∧ Hid (Filling w5.heap.size w5 wr nb1 w5.heap.size db1 NN ((n0 + 63) / 64) (.slice s1' n0 n0) 0 (fun _ => (0, 0)) none q E))
                case atStart => exact ⟨0, Nat.zero_le _, rfl, by show _ = _; omega, B6.out, bf6, N6.out, fun _ h => absurd h (Nat.not_lt_zero _)⟩
                case round =>
                  obtain ⟨q, hq, rfl, HG, hfill⟩ := hrel
                  by_cases hqn : q < n1
                  · obtain ⟨bg, og, rfl, kg, hcg⟩ := C5.out.row (by omega)
                    obtain ⟨b2, o2, rfl, k2, hc2⟩ := C5.out.op (by omega)
                    obtain ⟨b3, o3, rfl, k3, hc3⟩ := C5.out.mks (by omega)
                    obtain ⟨b4, o4, rfl, k4, hc4⟩ := C5.out.h (by omega)
                    have AT : Hid (∀ w', Below w5.heap.size w5 w' → w'.cell? ⟨bg, og + q, none⟩ = some (.slice (E q).a (E q).n (E q).c) ∧ w'.cell? ⟨b2, o2 + q, none⟩ = some (.int .i32 (E q).o) ∧ w'.cell? ⟨b3, o3 + q, none⟩ = some (.bool (E q).mark) ∧ w'.cell? ⟨b4, o4 + q, none⟩ = some (.int .u64 (E q).h)) :=
                      fun w' k => ⟨(k.cell (p := ⟨bg, og + q, none⟩) kg).trans (hcg q hqn), (k.cell (p := ⟨b2, o2 + q, none⟩) k2).trans (hc2 q hqn), (k.cell (p := ⟨b3, o3 + q, none⟩) k3).trans (hc3 q hqn), (k.cell (p := ⟨b4, o4 + q, none⟩) k4).trans (hc4 q hqn)⟩
                    obtain ⟨cg, d2, d3, d4⟩ := AT.out wr hfill.out.1
                    have e2 : q < n2 := by have := HF.out.e2; omega
                    have e3 : q < n3 := by have := HF.out.e3; omega
                    have e4 : q < n4 := by have := HF.out.e4; omega
                    have FN : Hid (Calls Tryd.prog 15 #[.pointer (some ⟨nb1, 0, none⟩), .int .i64 q, .slice (E q).a (E q).n (E q).c, .int .i32 (E q).o, .bool (E q).mark, .int .u64 (E q).h] wr.drew fun e w' => e = .returned (.tuple #[]) ∧ Filling w5.heap.size w5 w' nb1 w5.heap.size db1 NN ((n0 + 63) / 64) (.slice s1' n0 n0) 0 (fun _ => (0, 0)) none (q + 1) E ∧ w'.cell? ⟨bg, og + q, none⟩ = some (.slice (E q).a (E q).n (E q).c) ∧ w'.cell? ⟨b2, o2 + q, none⟩ = some (.int .i32 (E q).o) ∧ w'.cell? ⟨b3, o3 + q, none⟩ = some (.bool (E q).mark) ∧ w'.cell? ⟨b4, o4 + q, none⟩ = some (.int .u64 (E q).h)) :=
                      (filling_next hfill.out (by omega)).mono fun e w' h => ⟨h.1, h.2, AT.out w' h.2.1⟩
                    clear hcg hc2 hc3 hc4 AT kg k2 k3 k4
                    generalize (E q).a = Eqa at cg FN
                    generalize (E q).n = Eqn at cg FN
                    generalize (E q).c = Eqc at cg FN
                    generalize (E q).o = Eqo at d2 FN
                    generalize (E q).mark = Eqm at d3 FN
                    generalize (E q).h = Eqh at d4 FN
                    go_wp2_with fail
                    go_region_held (fun w' => w'.cell? ⟨bg, og + q, none⟩ = some (.slice Eqa Eqn Eqc) ∧ w'.cell? ⟨b2, o2 + q, none⟩ = some (.int .i32 Eqo) ∧ w'.cell? ⟨b3, o3 + q, none⟩ = some (.bool Eqm) ∧ w'.cell? ⟨b4, o4 + q, none⟩ = some (.int .u64 Eqh)) (go_keep) ((go_at_call 15; refine FN.out.mono ?_; rintro e w7 ⟨rfl, hf7, x1, x2, x3, x4⟩))
                    have F7 : Hid (Filling w5.heap.size w5 w7 nb1 w5.heap.size db1 NN ((n0 + 63) / 64) (.slice s1' n0 n0) 0 (fun _ => (0, 0)) none (q + 1) E) := hf7
                    clear hf7 x1 x2 x3 x4
                    go_wp2_with fail
                    go_roundg (n1 - (q + 1))
                    case measure => have := HG.out; omega
                    case rel => exact ⟨q + 1, by omega, by go_num, by show _ = _; omega, F7⟩
                  · obtain rfl : n1 = q := by omega
                    obtain ⟨g1, hg1⟩ : ∃ g, 0 < n1 → s1' = some ⟨g, 0, none⟩ ∧ Bytes w5 g 0 n0 z ∧ g < w5.heap.size := by
                      by_cases e : 0 < n1
                      · obtain ⟨g, hg⟩ := V5.out e
                        exact ⟨g, fun _ => hg⟩
                      · exact ⟨0, fun h => absurd h e⟩
                    have HG1 : Hid (0 < n1 → s1' = some ⟨g1, 0, none⟩ ∧ Bytes w5 g1 0 n0 z ∧ g1 < w5.heap.size) := hg1
                    clear hg1
                    go_wp2_with fail
                    refine (filling_held hfill.out).mono ?_
                    rintro e w7 ⟨rfl, hb7, bf7, hns7, hl7⟩
                    have X7 : Hid (Below w5.heap.size w5 w7 ∧ NS w7 w5.heap.size nb1 w5.heap.size db1 NN ((n0 + 63) / 64) (.slice s1' n0 n0) bf7 n1 0 (fun _ => (0, 0)) none ∧ Laid bf7 n1 E) := ⟨hb7, hns7, hl7⟩
                    clear hb7 hns7 hl7 HG hfill
                    go_wp2_with fail
                    refine (flush_at w5.heap.size nb1 w5.heap.size db1 NN ((n0 + 63) / 64) n0 n1 g1 z bf7 0 (fun _ => (0, 0)) none (nmAt z n0) E (.slice s1' n0 n0) w7 (by omega) hNN2 hs0 hn16 rfl (C5.out.below X7.out.1).tab C5.out.B1 X7.out.2.1
                      (fun h => ⟨by rw [(HG1.out h).1], (HG1.out h).2.1.below X7.out.1 (HG1.out h).2.2, (HG1.out h).2.2⟩) (C5.out.below X7.out.1).sl (fun i hi => by have := (PL.out.cl i hi).1; omega) PL.out.h X7.out.2.2
                      (fun k hk => (Inv.run PL.out none k (by omega)).fit PL.out (by omega) _)).mono ?_
                    rintro e w8 ⟨rfl, hb8, tc8, hns8⟩
                    have W8 : Hid (Below w5.heap.size w5 w8) := X7.out.1.trans hb8
                    have O8 : Hid (NS w8 w5.heap.size nb1 w5.heap.size db1 NN ((n0 + 63) / 64) (.slice s1' n0 n0) bf7 0 tc8 (run NN (nmAt z n0) (fun _ => (0, 0), none) E n1).1 (run NN (nmAt z n0) (fun _ => (0, 0), none) E n1).2) := hns8
                    have S8 : Hid (Sl w8 (.slice a0' n0 n0) sl ∧ (a0' = none → n0 = 0 ∧ n0 = 0)) := ⟨S5.out.1.below W8.out, S5.out.2⟩
                    have M8 : Hid (Nms w8 a1' n1 A1 Ln Ln l) := M5.out.below W8.out
                    clear hb8 hns8 X7 HG1 V5 S5 M5 N6 B6
                    go_wp2_with fail
                    refine (cloneBytes_calls a0' n0 n0 sl w8 S8.out.1 S8.out.2 hs0 0 (by have := C5.out.B1; have := W8.out.size; omega)).mono ?_
                    rintro e w9 ⟨s2', rfl, hb9, hsl9, hz9, hs9⟩
                    have K9 : Hid (Below w8.heap.size w8 w9) := hb9
                    have M9 : Hid (Nms w9 a1' n1 A1 Ln Ln l) := M8.out.below hb9
                    have C9 : Hid (Ctx w9.heap.size w9 ag a2 a3 a4 n1 E) := ((C5.out.below W8.out).below (hb9.mono W8.out.size)).mono (by have := W8.out.size; have := hb9.size; omega)
                    have V9 : Hid (∃ g, 0 < n1 → s2' = some ⟨g, 0, none⟩ ∧ Bytes w9 g 0 n0 z ∧ g < w9.heap.size) := by
                      by_cases hn0 : 0 < n1
                      · have hp0 : 0 < n0 := by have := (PL.out.cl 0 hn0).1; omega
                        have e := hs9 hp0
                        subst e
                        have hby := ZB.out hsl9.sl
                        exact ⟨w8.heap.size, fun _ => ⟨rfl, hby, hby.lt hp0⟩⟩
                      · exact ⟨0, fun h => absurd h hn0⟩
                    clear hb9 hsl9 hz9 hs9 S8 M8 C5
                    go_wp2_with fail
                    refine (newNameSet_calls NN ((n0 + 63) / 64) s2' n0 n0 w9 hNN2).mono ?_
                    rintro e w10 ⟨rfl, hb10, bf10, hns10⟩
                    have F10 : Hid (Filling w9.heap.size w9 w10 (w9.heap.size + 2) w9.heap.size (w9.heap.size + 1) NN ((n0 + 63) / 64) (.slice s2' n0 n0) 0 (fun _ => (0, 0)) none 0 E) := ⟨hb10, bf10, hns10, fun _ h => absurd h (Nat.not_lt_zero _)⟩
                    clear hb10 hns10
                    go_wp2_with fail
                    generalize w9.heap.size + 2 = nb2 at F10 ⊢
                    generalize w9.heap.size + 1 = db2 at F10 ⊢
                    obtain ⟨g2, hg2⟩ := V9.out
                    have HG2 : Hid (0 < n1 → s2' = some ⟨g2, 0, none⟩ ∧ Bytes w9 g2 0 n0 z ∧ g2 < w9.heap.size) := hg2
                    clear hg2 V9
                    go_loopg [22] ct (fun gk i wr => ∃ q : Nat, q ≤ ct ∧ i = .int .i64 q ∧ Hid (q + gk = ct) ∧ Hid (Filling w9.heap.size w9 wr nb2 w9.heap.size db2 NN ((n0 + 63) / 64) (.slice s2' n0 n0) 0 (fun _ => (0, 0)) none q E))
                    case atStart => exact ⟨0, Nat.zero_le _, rfl, by show _ = _; omega, F10⟩
                    case round =>
                      obtain ⟨q, hq, rfl, HG, hfill⟩ := hrel
                      by_cases hqn : q < ct
                      · obtain ⟨bg, og, rfl, kg, hcg⟩ := C9.out.row (by omega)
                        obtain ⟨b2, o2, rfl, k2, hc2⟩ := C9.out.op (by omega)
                        obtain ⟨b3, o3, rfl, k3, hc3⟩ := C9.out.mks (by omega)
                        obtain ⟨b4, o4, rfl, k4, hc4⟩ := C9.out.h (by omega)
                        have hqn1 : q < n1 := by omega
                        have AT : Hid (∀ w', Below w9.heap.size w9 w' → w'.cell? ⟨bg, og + q, none⟩ = some (.slice (E q).a (E q).n (E q).c) ∧ w'.cell? ⟨b2, o2 + q, none⟩ = some (.int .i32 (E q).o) ∧ w'.cell? ⟨b3, o3 + q, none⟩ = some (.bool (E q).mark) ∧ w'.cell? ⟨b4, o4 + q, none⟩ = some (.int .u64 (E q).h)) :=
                          fun w' k => ⟨(k.cell (p := ⟨bg, og + q, none⟩) kg).trans (hcg q hqn1), (k.cell (p := ⟨b2, o2 + q, none⟩) k2).trans (hc2 q hqn1), (k.cell (p := ⟨b3, o3 + q, none⟩) k3).trans (hc3 q hqn1), (k.cell (p := ⟨b4, o4 + q, none⟩) k4).trans (hc4 q hqn1)⟩
                        obtain ⟨cg, d2, d3, d4⟩ := AT.out wr hfill.out.1
                        have e2 : q < n2 := by have := HF.out.e2; omega
                        have e3 : q < n3 := by have := HF.out.e3; omega
                        have e4 : q < n4 := by have := HF.out.e4; omega
                        have FN : Hid (Calls Tryd.prog 15 #[.pointer (some ⟨nb2, 0, none⟩), .int .i64 q, .slice (E q).a (E q).n (E q).c, .int .i32 (E q).o, .bool (E q).mark, .int .u64 (E q).h] wr.drew fun e w' => e = .returned (.tuple #[]) ∧ Filling w9.heap.size w9 w' nb2 w9.heap.size db2 NN ((n0 + 63) / 64) (.slice s2' n0 n0) 0 (fun _ => (0, 0)) none (q + 1) E ∧ w'.cell? ⟨bg, og + q, none⟩ = some (.slice (E q).a (E q).n (E q).c) ∧ w'.cell? ⟨b2, o2 + q, none⟩ = some (.int .i32 (E q).o) ∧ w'.cell? ⟨b3, o3 + q, none⟩ = some (.bool (E q).mark) ∧ w'.cell? ⟨b4, o4 + q, none⟩ = some (.int .u64 (E q).h)) :=
                          (filling_next hfill.out (by omega)).mono fun e w' h => ⟨h.1, h.2, AT.out w' h.2.1⟩
                        clear hcg hc2 hc3 hc4 AT kg k2 k3 k4
                        generalize (E q).a = Eqa at cg FN
                        generalize (E q).n = Eqn at cg FN
                        generalize (E q).c = Eqc at cg FN
                        generalize (E q).o = Eqo at d2 FN
                        generalize (E q).mark = Eqm at d3 FN
                        generalize (E q).h = Eqh at d4 FN
                        go_wp2_with fail
                        go_region_held (fun w' => w'.cell? ⟨bg, og + q, none⟩ = some (.slice Eqa Eqn Eqc) ∧ w'.cell? ⟨b2, o2 + q, none⟩ = some (.int .i32 Eqo) ∧ w'.cell? ⟨b3, o3 + q, none⟩ = some (.bool Eqm) ∧ w'.cell? ⟨b4, o4 + q, none⟩ = some (.int .u64 Eqh)) (go_keep) ((go_at_call 15; refine FN.out.mono ?_; rintro e w7 ⟨rfl, hf7, x1, x2, x3, x4⟩))
                        have F7 : Hid (Filling w9.heap.size w9 w7 nb2 w9.heap.size db2 NN ((n0 + 63) / 64) (.slice s2' n0 n0) 0 (fun _ => (0, 0)) none (q + 1) E) := hf7
                        clear hf7 x1 x2 x3 x4
                        go_wp2_with fail
                        go_roundg (ct - (q + 1))
                        case measure => have := HG.out; omega
                        case rel => exact ⟨q + 1, by omega, by go_num, by show _ = _; omega, F7⟩
                      · obtain rfl : ct = q := by omega
                        go_wp2_with fail
                        refine (filling_held hfill.out).mono ?_
                        rintro e w11 ⟨rfl, hb11, bf11, hns11, hl11⟩
                        have X11 : Hid (Below w9.heap.size w9 w11 ∧ NS w11 w9.heap.size nb2 w9.heap.size db2 NN ((n0 + 63) / 64) (.slice s2' n0 n0) bf11 ct 0 (fun _ => (0, 0)) none ∧ Laid bf11 ct E) := ⟨hb11, hns11, hl11⟩
                        clear hb11 hns11 hl11 HG hfill F10
                        go_wp2_with fail
                        refine (flush_at w9.heap.size nb2 w9.heap.size db2 NN ((n0 + 63) / 64) n0 ct g2 z bf11 0 (fun _ => (0, 0)) none (nmAt z n0) E (.slice s2' n0 n0) w11 (by omega) hNN2 hs0 (by omega) rfl (C9.out.below X11.out.1).tab C9.out.B1 X11.out.2.1
                          (fun h => ⟨by rw [(HG2.out (by omega)).1], (HG2.out (by omega)).2.1.below X11.out.1 (HG2.out (by omega)).2.2, (HG2.out (by omega)).2.2⟩) (fun i hi => (C9.out.below X11.out.1).sl i (by omega)) (fun i hi => by have := (PL.out.cl i (by omega)).1; omega) (fun i hi => PL.out.h i (by omega)) X11.out.2.2
                          (fun k hk => (Inv.run PL.out none k (by omega)).fit PL.out (by omega) _)).mono ?_
                        rintro e w12 ⟨rfl, hb12, tc12, hns12⟩
                        have F12 : Hid (Filling w9.heap.size w9 w12 nb2 w9.heap.size db2 NN ((n0 + 63) / 64) (.slice s2' n0 n0) tc12 (run NN (nmAt z n0) (fun _ => (0, 0), none) E ct).1 (run NN (nmAt z n0) (fun _ => (0, 0), none) E ct).2 0 (fun i => E (ct + i))) := ⟨X11.out.1.trans hb12, bf11, hns12, fun _ h => absurd h (Nat.not_lt_zero _)⟩
                        clear hb12 hns12 X11
                        go_wp2_with fail
                        go_loopg [23] (n1 - ct) (fun gk i wr => ∃ p : Nat, ct ≤ p ∧ p ≤ n1 ∧ i = .int .i64 p ∧ Hid (p + gk = n1) ∧ Hid (Filling w9.heap.size w9 wr nb2 w9.heap.size db2 NN ((n0 + 63) / 64) (.slice s2' n0 n0) tc12 (run NN (nmAt z n0) (fun _ => (0, 0), none) E ct).1 (run NN (nmAt z n0) (fun _ => (0, 0), none) E ct).2 (p - ct) (fun i => E (ct + i))))
                        case atStart => exact ⟨ct, Nat.le_refl _, hct, rfl, by show _ = _; omega, by rw [Nat.sub_self]; exact F12⟩
                        case round =>
                          obtain ⟨q, hq0, hq, rfl, HG, hfill⟩ := hrel
                          by_cases hqn1 : q < n1
                          · obtain ⟨bg, og, rfl, kg, hcg⟩ := C9.out.row (by omega)
                            obtain ⟨b2, o2, rfl, k2, hc2⟩ := C9.out.op (by omega)
                            obtain ⟨b3, o3, rfl, k3, hc3⟩ := C9.out.mks (by omega)
                            obtain ⟨b4, o4, rfl, k4, hc4⟩ := C9.out.h (by omega)
                            have AT : Hid (∀ w', Below w9.heap.size w9 w' → w'.cell? ⟨bg, og + q, none⟩ = some (.slice (E q).a (E q).n (E q).c) ∧ w'.cell? ⟨b2, o2 + q, none⟩ = some (.int .i32 (E q).o) ∧ w'.cell? ⟨b3, o3 + q, none⟩ = some (.bool (E q).mark) ∧ w'.cell? ⟨b4, o4 + q, none⟩ = some (.int .u64 (E q).h)) :=
                              fun w' k => ⟨(k.cell (p := ⟨bg, og + q, none⟩) kg).trans (hcg q hqn1), (k.cell (p := ⟨b2, o2 + q, none⟩) k2).trans (hc2 q hqn1), (k.cell (p := ⟨b3, o3 + q, none⟩) k3).trans (hc3 q hqn1), (k.cell (p := ⟨b4, o4 + q, none⟩) k4).trans (hc4 q hqn1)⟩
                            obtain ⟨cg, d2, d3, d4⟩ := AT.out wr hfill.out.1
                            have e2 : q < n2 := by have := HF.out.e2; omega
                            have e3 : q < n3 := by have := HF.out.e3; omega
                            have e4 : q < n4 := by have := HF.out.e4; omega
                            have FN : Hid (Calls Tryd.prog 15 #[.pointer (some ⟨nb2, 0, none⟩), .int .i64 (IntKind.i64.wrap ((q : Int) - (ct : Int))), .slice (E q).a (E q).n (E q).c, .int .i32 (E q).o, .bool (E q).mark, .int .u64 (E q).h] wr.drew fun e w' => e = .returned (.tuple #[]) ∧ Filling w9.heap.size w9 w' nb2 w9.heap.size db2 NN ((n0 + 63) / 64) (.slice s2' n0 n0) tc12 (run NN (nmAt z n0) (fun _ => (0, 0), none) E ct).1 (run NN (nmAt z n0) (fun _ => (0, 0), none) E ct).2 (q + 1 - ct) (fun i => E (ct + i)) ∧ w'.cell? ⟨bg, og + q, none⟩ = some (.slice (E q).a (E q).n (E q).c) ∧ w'.cell? ⟨b2, o2 + q, none⟩ = some (.int .i32 (E q).o) ∧ w'.cell? ⟨b3, o3 + q, none⟩ = some (.bool (E q).mark) ∧ w'.cell? ⟨b4, o4 + q, none⟩ = some (.int .u64 (E q).h)) := by
                              have hh := (filling_next hfill.out (by omega)).mono fun e w' h => (⟨h.1, h.2, AT.out w' h.2.1⟩ : e = .returned (.tuple #[]) ∧ Filling w9.heap.size w9 w' nb2 w9.heap.size db2 NN ((n0 + 63) / 64) (.slice s2' n0 n0) tc12 (run NN (nmAt z n0) (fun _ => (0, 0), none) E ct).1 (run NN (nmAt z n0) (fun _ => (0, 0), none) E ct).2 (q - ct + 1) (fun i => E (ct + i)) ∧ _)
                              simp only [show ct + (q - ct) = q by omega, show q - ct + 1 = q + 1 - ct by omega, show ((q - ct : Nat) : Int) = IntKind.i64.wrap ((q : Int) - (ct : Int)) by rw [IntKind.wrap_i64]; omega] at hh
                              exact hh
                            clear hcg hc2 hc3 hc4 AT kg k2 k3 k4
                            generalize (E q).a = Eqa at cg FN
                            generalize (E q).n = Eqn at cg FN
                            generalize (E q).c = Eqc at cg FN
                            generalize (E q).o = Eqo at d2 FN
                            generalize (E q).mark = Eqm at d3 FN
                            generalize (E q).h = Eqh at d4 FN
                            go_wp2_with fail
                            go_region_held (fun w' => w'.cell? ⟨bg, og + q, none⟩ = some (.slice Eqa Eqn Eqc) ∧ w'.cell? ⟨b2, o2 + q, none⟩ = some (.int .i32 Eqo) ∧ w'.cell? ⟨b3, o3 + q, none⟩ = some (.bool Eqm) ∧ w'.cell? ⟨b4, o4 + q, none⟩ = some (.int .u64 Eqh)) (go_keep) ((go_at_call 15; refine FN.out.mono ?_; rintro e w7 ⟨rfl, hf7, x1, x2, x3, x4⟩))
                            have F7 : Hid (Filling w9.heap.size w9 w7 nb2 w9.heap.size db2 NN ((n0 + 63) / 64) (.slice s2' n0 n0) tc12 (run NN (nmAt z n0) (fun _ => (0, 0), none) E ct).1 (run NN (nmAt z n0) (fun _ => (0, 0), none) E ct).2 (q + 1 - ct) (fun i => E (ct + i))) := hf7
                            clear hf7 x1 x2 x3 x4
                            go_wp2_with fail
                            go_roundg (n1 - (q + 1))
                            case measure => have := HG.out; omega
                            case rel => exact ⟨q + 1, by omega, by omega, by go_num, by show _ = _; omega, F7⟩
                          · obtain rfl : n1 = q := by omega
                            have FH := filling_held hfill.out
                            rw [show ((n1 - ct : Nat) : Int) = (n1 : Int) - (ct : Int) by omega] at FH
                            have FHH : Hid (Calls Tryd.prog 16 #[.pointer (some ⟨nb2, 0, none⟩), .int .i64 ((n1 : Int) - (ct : Int))] wr fun e w' => e = .returned (.tuple #[]) ∧ Below w9.heap.size w9 w' ∧ ∃ bf, NS w' w9.heap.size nb2 w9.heap.size db2 NN ((n0 + 63) / 64) (.slice s2' n0 n0) bf ((n1 : Int) - (ct : Int)) tc12 (run NN (nmAt z n0) (fun _ => (0, 0), none) E ct).1 (run NN (nmAt z n0) (fun _ => (0, 0), none) E ct).2 ∧ Laid bf (n1 - ct) (fun i => E (ct + i))) := FH
                            clear FH hfill HG F12
                            go_wp2_with fail
                            refine FHH.out.mono ?_
                            rintro e w13 ⟨rfl, hb13, bf13, hns13, hl13⟩
                            rw [show (n1 : Int) - (ct : Int) = ((n1 - ct : Nat) : Int) by omega] at hns13
                            have X13 : Hid (Below w9.heap.size w9 w13 ∧ NS w13 w9.heap.size nb2 w9.heap.size db2 NN ((n0 + 63) / 64) (.slice s2' n0 n0) bf13 (n1 - ct : Nat) tc12 (run NN (nmAt z n0) (fun _ => (0, 0), none) E ct).1 (run NN (nmAt z n0) (fun _ => (0, 0), none) E ct).2 ∧ Laid bf13 (n1 - ct) (fun i => E (ct + i))) := ⟨hb13, hns13, hl13⟩
                            clear hb13 hns13 hl13 FHH
                            go_wp2_with fail
                            refine (flush_at w9.heap.size nb2 w9.heap.size db2 NN ((n0 + 63) / 64) n0 (n1 - ct) g2 z bf13 tc12 (run NN (nmAt z n0) (fun _ => (0, 0), none) E ct).1 (run NN (nmAt z n0) (fun _ => (0, 0), none) E ct).2 (nmAt z n0) (fun i => E (ct + i)) (.slice s2' n0 n0) w13 (by omega) hNN2 hs0 (by omega) rfl (C9.out.below X13.out.1).tab C9.out.B1 X13.out.2.1
                              (fun h => ⟨by rw [(HG2.out (by omega)).1], (HG2.out (by omega)).2.1.below X13.out.1 (HG2.out (by omega)).2.2, (HG2.out (by omega)).2.2⟩) (fun i hi => (C9.out.below X13.out.1).sl (ct + i) (by omega)) (fun i hi => by have := (PL.out.cl (ct + i) (by omega)).1; omega) (fun i hi => PL.out.h (ct + i) (by omega)) X13.out.2.2
                              (fun k hk => by have hi := (Inv.run PL.out none (ct + k) (by omega)).fit PL.out (by omega) (E (ct + k)).h; rw [run_add] at hi; exact hi)).mono ?_
                            rintro e w14 ⟨rfl, hb14, tc14, hns14⟩
                            have hra := run_add NN (nmAt z n0) (fun _ => (0, 0), none) E ct (n1 - ct)
                            rw [show ct + (n1 - ct) = n1 by omega] at hra
                            have T14 : Hid (NS w14 w9.heap.size nb2 w9.heap.size db2 NN ((n0 + 63) / 64) (.slice s2' n0 n0) bf13 0 tc14 (run NN (nmAt z n0) (fun _ => (0, 0), none) E n1).1 (run NN (nmAt z n0) (fun _ => (0, 0), none) E n1).2) := by rw [hra]; exact hns14
                            have K14 : Below w9.heap.size w9 w14 := X13.out.1.trans hb14
                            have O14 : Hid (NS w14 w5.heap.size nb1 w5.heap.size db1 NN ((n0 + 63) / 64) (.slice s1' n0 n0) bf7 0 tc8 (run NN (nmAt z n0) (fun _ => (0, 0), none) E n1).1 (run NN (nmAt z n0) (fun _ => (0, 0), none) E n1).2) := O8.out.below (K9.out.trans (K14.mono K9.out.size))
                            have M14 : Hid (Nms w14 a1' n1 A1 Ln Ln l) := M9.out.below K14
                            have W14 : Hid (Below w'.heap.size w' w14) := W5.out.trans (W8.out.trans ((K9.out.trans (K14.mono K9.out.size)).mono W8.out.size) |>.mono W5.out.size)
                            have IV := Inv.run PL.out none n1 (Nat.le_refl _)
                            have CNT : Hid (occ (run NN (nmAt z n0) (fun _ => (0, 0), none) E n1).1 NN = firsts l n1) := by have := IV.cnt; rw [HEl.out] at this; exact this
                            have VAL : Hid (∀ i, i < NN → ((run NN (nmAt z n0) (fun _ => (0, 0), none) E n1).1 i).2 ≤ 1048576) := fun i hi => ((IV.fit PL.out (Nat.le_refl _) 0).val i hi).2
                            clear hb14 hns14 hra K14 IV X13 C9 O8 M9 K9 W5 W8 HG2 PL
                            generalize (run NN (nmAt z n0) (fun _ => (0, 0), none) E n1).1 = TT at T14 O14 CNT VAL
                            generalize (run NN (nmAt z n0) (fun _ => (0, 0), none) E n1).2 = DD at T14 O14
                            have a1c : w14.cell? ⟨nb1, 68, none⟩ = some (.int .i64 0) := O14.out.set.cell (i := 68) (by decide)
                            have a2c : w14.cell? ⟨nb2, 68, none⟩ = some (.int .i64 0) := T14.out.set.cell (i := 68) (by decide)
                            have a1s : w14.cell? ⟨nb1, 2, none⟩ = some (.slice (some ⟨w5.heap.size, 0, none⟩) NN NN) := O14.out.set.cell (i := 2) (by decide)
                            have a2s : w14.cell? ⟨nb2, 2, none⟩ = some (.slice (some ⟨w9.heap.size, 0, none⟩) NN NN) := T14.out.set.cell (i := 2) (by decide)
                            go_wp2_with fail
                            refine (held_calls nb1 0 _ a1c).mono ?_
                            rintro e wx ⟨rfl, hwx⟩
                            rw [hwx]
                            go_wp2_with fail
                            refine (held_calls nb2 0 _ a2c).mono ?_
                            rintro e wx2 ⟨rfl, hwx2⟩
                            rw [hwx2]
                            clear hwx hwx2
                            go_wp2_with fail
                            refine (slotCount_calls nb1 NN _ _ a1s).mono ?_
                            rintro e wx ⟨rfl, hwx⟩
                            rw [hwx]
                            clear hwx
                            go_wp2_with fail
                            refine (slotCount_calls nb2 NN _ _ a2s).mono ?_
                            rintro e wx ⟨rfl, hwx⟩
                            rw [hwx]
                            clear hwx a1c a2c a1s a2s
                            go_wp2_with fail
                            go_loopg [24] NN (fun gk i wr => ∃ q : Nat, q ≤ NN ∧ i = .int .i64 q ∧ Hid (q + gk = NN) ∧ Hid (Below w14.heap.size w14 wr))
                            case atStart => exact ⟨0, Nat.zero_le _, rfl, by show _ = _; omega, Below.refl _ _⟩
                            case round =>
                              obtain ⟨q, hq, rfl, HG, hbq⟩ := hrel
                              by_cases hqn : q < NN
                              · have SN1 : Hid (∀ W, Below w14.heap.size w14 W → Calls Tryd.prog 20 #[.pointer (some ⟨nb1, 0, none⟩), .int .i64 q] W fun e w' => e = .returned (.agg #[.int .u8 (((TT q).2 / 256 ^ 0 % 256 : Nat) : Int), .int .u8 (((TT q).2 / 256 ^ 1 % 256 : Nat) : Int), .int .u8 (((TT q).2 / 256 ^ 2 % 256 : Nat) : Int), .int .u8 (((TT q).2 / 256 ^ 3 % 256 : Nat) : Int)]) ∧ Below W.heap.size W w') :=
                                  fun W hW => slotName_at (O14.out.below hW) hqn
                                have SN2 : Hid (∀ W, Below w14.heap.size w14 W → Calls Tryd.prog 20 #[.pointer (some ⟨nb2, 0, none⟩), .int .i64 q] W fun e w' => e = .returned (.agg #[.int .u8 (((TT q).2 / 256 ^ 0 % 256 : Nat) : Int), .int .u8 (((TT q).2 / 256 ^ 1 % 256 : Nat) : Int), .int .u8 (((TT q).2 / 256 ^ 2 % 256 : Nat) : Int), .int .u8 (((TT q).2 / 256 ^ 3 % 256 : Nat) : Int)]) ∧ Below W.heap.size W w') :=
                                  fun W hW => slotName_at (T14.out.below hW) hqn
                                have ST1 : Hid (∀ W, Below w14.heap.size w14 W → Calls Tryd.prog 21 #[.pointer (some ⟨nb1, 0, none⟩), .int .i64 q] W fun e w' => e = .returned (.int .u8 ((TT q).1 : Nat)) ∧ w' = W) := fun W hW => slotTag_at (O14.out.below hW) hqn
                                have ST2 : Hid (∀ W, Below w14.heap.size w14 W → Calls Tryd.prog 21 #[.pointer (some ⟨nb2, 0, none⟩), .int .i64 q] W fun e w' => e = .returned (.int .u8 ((TT q).1 : Nat)) ∧ w' = W) := fun W hW => slotTag_at (T14.out.below hW) hqn
                                generalize (TT q).2 / 256 ^ 0 % 256 = y0 at SN1 SN2
                                generalize (TT q).2 / 256 ^ 1 % 256 = y1 at SN1 SN2
                                generalize (TT q).2 / 256 ^ 2 % 256 = y2 at SN1 SN2
                                generalize (TT q).2 / 256 ^ 3 % 256 = y3 at SN1 SN2
                                generalize (TT q).1 = yt at ST1 ST2
                                go_wp2_with fail
                                refine (SN1.out _ hbq.out).mono ?_
                                rintro e w15 ⟨rfl, hb15⟩
                                have B15 : Hid (Below w14.heap.size w14 w15) := hbq.out.trans (hb15.mono hbq.out.size)
                                clear hb15
                                go_wp2_with fail
                                refine (SN2.out _ B15.out).mono ?_
                                rintro e w16 ⟨rfl, hb16⟩
                                have B16 : Hid (Below w14.heap.size w14 w16) := B15.out.trans (hb16.mono B15.out.size)
                                clear hb16
                                have EQN := fun w => same4 (y0 : Int) y1 y2 y3 w
                                go_wp2_with fail
                                refine (ST1.out _ B16.out).mono ?_
                                rintro e wx ⟨rfl, hwx⟩
                                rw [hwx]
                                clear hwx
                                go_wp2_with fail
                                refine (ST2.out _ B16.out).mono ?_
                                rintro e wx ⟨rfl, hwx⟩
                                rw [hwx]
                                clear hwx
                                go_wp2_with fail
                                go_roundg (NN - (q + 1))
                                case measure => have := HG.out; omega
                                case rel => exact ⟨q + 1, by omega, by go_num, by show _ = _; omega, B16⟩
                              · obtain rfl : NN = q := by omega
                                have OB : Hid (∀ W, Below w14.heap.size w14 W → Calls Tryd.prog 23 #[.pointer (some ⟨nb1, 0, none⟩), .int .i64 NN] W fun e w' => e = .returned (.int .i64 (occ TT NN : Nat)) ∧ Below W.heap.size W w') :=
                                  fun W hW => countOccupied_calls _ _ _ _ _ _ _ _ _ _ _ _ W hNN2 (O14.out.below hW) VAL.out
                                have FB : Hid (∀ W, Below w14.heap.size w14 W → Calls Tryd.prog 24 #[.slice a1' n1 n1] W fun e w' => e = .returned (.int .i64 (occ TT NN : Nat)) ∧ ∃ m, w' = W.drewN m) := by
                                  intro W hW
                                  rw [CNT.out]
                                  exact countFirsts_calls a1' n1 n1 A1 Ln Ln l W (M14.out.below hW) m1
                                clear CNT VAL M14
                                generalize occ TT NN = oc at OB FB
                                cases DD with
                                | none =>
                                  have D1 : Hid (Calls Tryd.prog 22 #[.pointer (some ⟨nb1, 0, none⟩)] wr fun e w' => e = .returned (.slice none 0 0) ∧ w' = wr) := dupWords_none (O14.out.below hbq.out)
                                  have D2 : Hid (Calls Tryd.prog 22 #[.pointer (some ⟨nb2, 0, none⟩)] wr fun e w' => e = .returned (.slice none 0 0) ∧ w' = wr) := dupWords_none (T14.out.below hbq.out)
                                  go_wp2_with fail
                                  refine D1.out.mono ?_
                                  rintro e wx ⟨rfl, hwx⟩
                                  rw [hwx]
                                  clear hwx
                                  go_wp2_with fail
                                  refine D2.out.mono ?_
                                  rintro e wx ⟨rfl, hwx⟩
                                  rw [hwx]
                                  clear hwx
                                  go_wp2_with fail
                                  clear D1 D2 O14 T14
                                  go_loopg [27] 0 (fun gk i wr => i = .int .i64 0 ∧ Hid (Below w14.heap.size w14 wr))
                                  case atStart => exact ⟨rfl, hbq⟩
                                  case round =>
                                    obtain ⟨rfl, hbr⟩ := hrel
                                    go_wp2_with fail
                                    refine (OB.out _ hbr.out).mono ?_
                                    rintro e w18 ⟨rfl, hb18⟩
                                    have B18 : Hid (Below w14.heap.size w14 w18) := hbr.out.trans (hb18.mono hbr.out.size)
                                    clear hb18
                                    go_wp2_with fail
                                    refine (FB.out _ B18.out).mono ?_
                                    rintro e w19 ⟨rfl, m19, hw19⟩
                                    have B19 : Hid (Below w'.heap.size w' w19) := by
                                      rw [hw19]
                                      exact W14.out.trans ((B18.out.trans ((below_drewN _ m19).mono B18.out.size)).mono W14.out.size)
                                    clear hw19
                                    go_wp2_with fail
                                    go_ret
                                    exact ⟨by simp, B19.out⟩
                                | some d =>
                                  obtain ⟨xb1, D1', X1'⟩ := dupWords_some (O14.out.below hbq.out)
                                  obtain ⟨xb2, D2', X2'⟩ := dupWords_some (T14.out.below hbq.out)
                                  have D1 : Hid (Calls Tryd.prog 22 #[.pointer (some ⟨nb1, 0, none⟩)] wr fun e w' => e = .returned (.slice (some ⟨xb1, 0, none⟩) ((n0 + 63) / 64 : Nat) ((n0 + 63) / 64 : Nat)) ∧ w' = wr) := D1'
                                  have D2 : Hid (Calls Tryd.prog 22 #[.pointer (some ⟨nb2, 0, none⟩)] wr fun e w' => e = .returned (.slice (some ⟨xb2, 0, none⟩) ((n0 + 63) / 64 : Nat) ((n0 + 63) / 64 : Nat)) ∧ w' = wr) := D2'
                                  have X1 : Hid (∀ j, j < (n0 + 63) / 64 → wr.cell? ⟨xb1, j, none⟩ = some (.int .u64 (d j))) := X1'
                                  have X2 : Hid (∀ j, j < (n0 + 63) / 64 → wr.cell? ⟨xb2, j, none⟩ = some (.int .u64 (d j))) := X2'
                                  clear D1' D2' X1' X2'
                                  have hM2 : (n0 + 63) / 64 ≤ 1048576 := by omega
                                  generalize (n0 + 63) / 64 = MM at D1 D2 X1 X2 hM2
                                  go_wp2_with fail
                                  refine D1.out.mono ?_
                                  rintro e wx ⟨rfl, hwx⟩
                                  rw [hwx]
                                  clear hwx
                                  go_wp2_with fail
                                  refine D2.out.mono ?_
                                  rintro e wx ⟨rfl, hwx⟩
                                  rw [hwx]
                                  clear hwx
                                  go_wp2_with fail
                                  clear D1 D2 O14 T14
                                  obtain ⟨w17, hw17⟩ : ∃ x, x = wr := ⟨_, rfl⟩
                                  rw [← hw17] at X1 X2 hbq
                                  go_loopg [27] MM (fun gk i wr => ∃ q : Nat, q ≤ MM ∧ i = .int .i64 q ∧ Hid (q + gk = MM) ∧ Hid (∃ m, wr = w17.drewN m))
                                  case atStart => exact ⟨0, Nat.zero_le _, rfl, by show _ = _; omega, 0, hw17.symm⟩
                                  case round =>
                                    obtain ⟨q, hq, rfl, HG, hbr⟩ := hrel
                                    by_cases hqn : q < MM
                                    · have x1 : wr.cell? ⟨xb1, q, none⟩ = some (.int .u64 (d q)) := by
                                        obtain ⟨m, rfl⟩ := hbr.out
                                        exact X1.out q hqn
                                      have x2 : wr.cell? ⟨xb2, q, none⟩ = some (.int .u64 (d q)) := by
                                        obtain ⟨m, rfl⟩ := hbr.out
                                        exact X2.out q hqn
                                      generalize d q = dq at x1 x2
                                      go_wp2_with fail
                                      go_quiet (fail)
                                      go_wp2_with fail
                                      go_roundg (MM - (q + 1))
                                      case measure => have := HG.out; omega
                                      case rel =>
                                        refine ⟨q + 1, by omega, by go_num, by show _ = _; omega, ?_⟩
                                        obtain ⟨m, rfl⟩ := hbr.out
                                        exact ⟨_, World.drewN_drewN _ _ _⟩
                                    · obtain rfl : MM = q := by omega
                                      have HB : Hid (Below w14.heap.size w14 wr) := by
                                        obtain ⟨m, rfl⟩ := hbr.out
                                        exact hbq.out.trans ((below_drewN _ m).mono hbq.out.size)
                                      clear X1 X2 hbr hbq HG
                                      go_wp2_with fail
                                      refine (OB.out _ HB.out).mono ?_
                                      rintro e w18 ⟨rfl, hb18⟩
                                      have B18 : Hid (Below w14.heap.size w14 w18) := HB.out.trans (hb18.mono HB.out.size)
                                      clear hb18
                                      go_wp2_with fail
                                      refine (FB.out _ B18.out).mono ?_
                                      rintro e w19 ⟨rfl, m19, hw19⟩
                                      have B19 : Hid (Below w'.heap.size w' w19) := by
                                        rw [hw19]
                                        exact W14.out.trans ((B18.out.trans ((below_drewN _ m19).mono B18.out.size)).mono W14.out.size)
                                      clear hw19
                                      go_wp2_with fail
                                      go_ret
                                      exact ⟨by simp, B19.out⟩
            · clear hrz
              go_wp2_with fail
              go_ret
              exact ⟨rfl, below_drewN _ _⟩
  · go_wp2_with fail
    go_ret
    exact ⟨rfl, hw ▸ Below.refl _ _⟩

end Go.Proofs.Qxb6613752aDoor.W
