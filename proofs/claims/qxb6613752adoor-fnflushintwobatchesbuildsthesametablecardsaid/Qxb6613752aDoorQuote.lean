import Derived.Test.Qxb6613752aDoorWord
import Derived.Deep.RegionWith
import Derived.Deep.LoopGhost
import Derived.Deep.Light
import Derived.BigRegion
import Derived.Deep.CutBlock
import Derived.Deep.CutRange
namespace Go.Proofs.Qxb6613752aDoor.W
open Go.RowKit

/-- The slice at ⟨g, o⟩ of L bytes holds z. -/
def Bytes (w : World) (g o L : Nat) (z : Nat → Nat) : Prop := ∀ i, i < L → z i < 256 ∧ w.cell? ⟨g, o + i, none⟩ = some (.int .u8 (z i))

theorem Bytes.below {w w' : World} {g o L : Nat} {z : Nat → Nat} {B : Nat} (h : Bytes w g o L z) (b : Below B w w') (hg : g < B) : Bytes w' g o L z :=
  fun i hi => ⟨(h i hi).1, (b.cell (p := ⟨g, o + i, none⟩) hg).trans (h i hi).2⟩

/-- The word read at k. -/
theorem word_calls (g o L C k : Nat) (z : Nat → Nat) (w : World) (hz : Bytes w g o L z) (h8 : k + 8 ≤ L) :
    Calls Tryd.prog 32 #[.agg #[], .slice (some ⟨g, o + k, none⟩) (L - k) (C - k)] w fun e w' => e = .returned (.int .u64 ((Swar.word8 z k : Nat) : Int)) ∧ Below w.heap.size w w' := by
  rw [Swar.word8_eq]
  have c : ∀ j, j < 8 → z (k + j) < 256 ∧ w.cell? ⟨g, o + k + j, none⟩ = some (.int .u8 (z (k + j))) := fun j hj => by
    rw [Nat.add_assoc]; exact hz (k + j) (by omega)
  exact uint64_calls g (o + k) (L - k) (C - k) _ _ _ _ _ _ _ _ w (by omega) (c 0 (by omega)).1 (c 1 (by omega)).1 (c 2 (by omega)).1 (c 3 (by omega)).1 (c 4 (by omega)).1 (c 5 (by omega)).1 (c 6 (by omega)).1 (c 7 (by omega)).1
    (c 0 (by omega)).2 (c 1 (by omega)).2 (c 2 (by omega)).2 (c 3 (by omega)).2 (c 4 (by omega)).2 (c 5 (by omega)).2 (c 6 (by omega)).2 (c 7 (by omega)).2

theorem Tab.below {w w' : World} {B : Nat} (h : Tab w) (b : Below B w w') (hB : 1 < B) : Tab w' := fun j hj => (b.cell (p := ⟨1, j, none⟩) hB).trans (h j hj)

theorem Tab.lt {w : World} (h : Tab w) : 1 < w.heap.size := cell_lt (h 0 (by decide))
theorem Bytes.lt {w : World} {g o L : Nat} {z : Nat → Nat} (h : Bytes w g o L z) (hL : 0 < L) : g < w.heap.size := cell_lt (h 0 hL).2

set_option maxHeartbeats 1000000 in
theorem closingQuote_calls (g o L C : Nat) (z : Nat → Nat) (op e : Nat) (w : World) (hT : Tab w) (hz : Bytes w g o L z) (hL : L ≤ 1048576) (hC : L ≤ C)
    (h1 : op + 1 ≤ e) (h2 : e < L) (hp : ∀ j, op + 1 ≤ j → j < e → z j ≠ 34 ∧ z j ≠ 92) (hq : z e = 34) :
    Calls Tryd.prog 25 #[.slice (some ⟨g, o, none⟩) L C, .int .i64 op] w fun r w' => r = .returned (.tuple #[.int .i64 e, .bool false]) ∧ Below w.heap.size w w' := by
  have HT : Hid (Tab w) := hT
  have HZ : Hid (Bytes w g o L z) := hz
  have HP : Hid (∀ j, op + 1 ≤ j → j < e → z j ≠ 34 ∧ z j ≠ 92) := hp
  have HQ : Hid (z e = 34) := hq
  clear hT hz hp hq
  go_enter Tryd.func25, Tryd.ntmps25
  go_wp2_with fail
  refine wp_loop_rounds 1 ?_
  rw [rounds_succ]
  go_upto_block 2 with fail
  go_cut [7] from 8 to 29 (fun i wr => ∃ k : Nat, op + 1 ≤ k ∧ k ≤ e ∧ i = .int .i64 k ∧ Hid (Below w.heap.size w wr))
  case first =>
    go_wp2_with fail
    go_loopg [7] (L - (op + 1)) (fun gk i wr => ∃ k : Nat, op + 1 ≤ k ∧ k ≤ e ∧ i = .int .i64 k ∧ k + gk = L ∧ Hid (Below w.heap.size w wr))
    case atStart => exact ⟨op + 1, Nat.le_refl _, h1, by go_num, by omega, Below.refl _ _⟩
    case round =>
      obtain ⟨k, hk1, hk2, rfl, hg, hb⟩ := hrel
      have HG : Hid (k + gk = L) := hg
      clear hg
      by_cases h8 : k + 8 ≤ L
      · have hd : decide ((k : Int) + 8 ≤ (L : Int)) = true := by simp; omega
        have hc : ¬ C = k := by omega
        have hB : Below w.heap.size w wr.drew := hb.out.drew
        have hZr := HZ.out.below hB (HZ.out.lt (by omega))
        have U : Hid (Calls Tryd.prog 32 #[.agg #[], .slice (some ⟨g, o + k, none⟩) (L - k) (C - k)] wr.drew fun e w' => e = .returned (.int .u64 ((Swar.word8 z k : Nat) : Int)) ∧ Below wr.drew.heap.size wr.drew w') := word_calls g o L C k z wr.drew hZr h8
        have hx : Swar.word8 z k < 18446744073709551616 := Swar.word8_lt z k fun j hj => (hZr (k + j) (by omega)).1
        have Q : Hid (∀ w, Calls Tryd.prog 31 #[.int .u64 (Swar.word8 z k)] w fun e w' => e = .returned (.int .u64 ((Swar.m 8 (Swar.word8 z k) : Nat) : Int)) ∧ w' = w) := fun w => qob_calls _ w hx
        have hm := m8_lt (Swar.word8 z k)
        have M0 : Hid (k + 8 ≤ e → Swar.m 8 (Swar.word8 z k) = 0) := fun h => Swar.m8_plain z k fun j hj => ⟨(hZr (k + j) (by omega)).1, HP.out (k + j) (by omega) (by omega)⟩
        have M1 : Hid (e < k + 8 → ∃ c, Swar.m 8 (Swar.word8 z k) = 2 ^ (8 * (e - k) + 7) * (2 * c + 1)) := fun h => Swar.m8_hit z k (e - k) (by omega) (fun j hj => HP.out (k + j) (by omega) (by omega)) (fun j hj => (hZr (k + j) (by omega)).1) (by rw [show k + (e - k) = e by omega]; exact HQ.out)
        have HB : Hid (Below w.heap.size w wr.drew) := hB
        clear hB hZr hx
        generalize Swar.m 8 (Swar.word8 z k) = mm at *
        generalize Swar.word8 z k = x at *
        by_cases he : e < k + 8
        · obtain ⟨c, hmm⟩ := M1.out he
          have hn0 : mm ≠ 0 := by rw [hmm]; have := Nat.mul_pos (Nat.pow_pos (a := 2) (n := 8 * (e - k) + 7) (by decide)) (show 0 < 2 * c + 1 by omega); omega
          have CZ : Hid (Lib.ctz 64 mm = 8 * (e - k) + 7) := by rw [hmm]; exact Swar.ctz_pow _ _ (by omega)
          have hne : ((mm : Int) != 0) = true := by rw [bne_iff_ne]; omega
          have F : Hid (∀ w, Tab w → Calls Tryd.prog 33 #[.int .u64 mm] w fun r w' => r = .returned (.int .i64 ((e - k : Nat) : Int)) ∧ w' = w) := fun w hT => by
            have := first_calls mm _ hm hn0 w hT CZ.out (by omega)
            rwa [show (8 * (e - k) + 7) / 8 = e - k by omega] at this
          clear hmm
          go_wp2_with fail
          go_region_with (first | (go_at_call 32; refine U.out.mono ?_; rintro e w' ⟨rfl, hb1⟩) | (go_at_call 31; refine (Q.out _).mono ?_; rintro e w' ⟨rfl, rfl⟩))
          all_goals
            have hb2 : Below w.heap.size w w' := HB.out.trans (hb1.mono HB.out.size)
            have hT2 : Tab w' := HT.out.below hb2 HT.out.lt
            have HT2 : Hid (Tab w') := hT2
            have HB2 : Hid (Below w.heap.size w w') := hb2
            clear hb1 hb2 hT2
            go_wp2_with (go_at_call 33; refine (F.out _ HT2.out).mono ?_; rintro e w'' ⟨rfl, rfl⟩)
            go_meet
            exact ⟨e, h1, Nat.le_refl _, by go_num, HB2⟩
        · have hmm := M0.out (by omega)
          subst hmm
          go_wp2_with fail
          go_region_with (first | (go_at_call 32; refine U.out.mono ?_; rintro e w' ⟨rfl, hb1⟩) | (go_at_call 31; refine (Q.out _).mono ?_; rintro e w' ⟨rfl, rfl⟩))
          all_goals
            have hb2 : Below w.heap.size w w' := HB.out.trans (hb1.mono HB.out.size)
            have HB2 : Hid (Below w.heap.size w w') := hb2
            clear hb1 hb2
            go_wp2_with fail
            go_roundg (gk - 8)
            case measure => have := HG.out; omega
            case rel => exact ⟨k + 8, by omega, by omega, by go_num, by have := HG.out; omega, HB2⟩
      · have hd : decide ((k : Int) + 8 ≤ (L : Int)) = false := by simp; omega
        go_wp2_with fail
        go_meet
        exact ⟨k, hk1, hk2, rfl, hb⟩
  case rest =>
    obtain ⟨k0, hk1, hk2, rfl, hb⟩ := hcut
    go_wp2_with fail
    go_loopg [7] (L - k0) (fun gk i wr => ∃ k : Nat, op + 1 ≤ k ∧ k ≤ e ∧ i = .int .i64 k ∧ k + gk = L ∧ wr = wc)
    case atStart => exact ⟨k0, hk1, hk2, rfl, by omega, rfl⟩
    case round =>
      obtain ⟨k, hk1, hk2, rfl, hg, rfl⟩ := hrel
      have HG : Hid (k + gk = L) := hg
      clear hg
      have hZr := (HZ.out.below hb.out (HZ.out.lt (by omega))) k (by omega)
      obtain ⟨hz1, hz2⟩ := hZr
      by_cases hke : k < e
      · have hpl := HP.out k hk1 hke
        have t1 : ((z k : Int) != 34) = true := by rw [bne_iff_ne]; omega
        have t2 : ((z k : Int) != 92) = true := by rw [bne_iff_ne]; omega
        have hd : decide ((k : Int) < (L : Int)) = true := by simp; omega
        clear hpl
        go_wp2_with fail
        go_roundg (gk - 1)
        case measure => have := HG.out; omega
        case rel => exact ⟨k + 1, by omega, by omega, by go_num, by have := HG.out; omega, rfl⟩
      · obtain rfl : k = e := by omega
        have t1 : ((z k : Int) != 34) = false := by rw [HQ.out]; rfl
        have t2 : ((z k : Int) == 34) = true := by rw [HQ.out]; rfl
        have hd : decide ((k : Int) < (L : Int)) = true := by simp; omega
        have hd2 : decide ((L : Int) ≤ (k : Int)) = false := by simp; omega
        go_wp2_with fail
        go_ret2
        exact ⟨rfl, hb.out⟩

end Go.Proofs.Qxb6613752aDoor.W
