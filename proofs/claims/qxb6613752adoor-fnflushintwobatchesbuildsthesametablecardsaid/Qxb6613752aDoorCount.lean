import Derived.Test.Qxb6613752aDoorClone
namespace Go.Proofs.Qxb6613752aDoor.W
open Go.RowKit

/-- How many of the first n slots are taken. -/
def occ (T : Nat → Nat × Nat) : Nat → Nat
  | 0 => 0
  | n + 1 => occ T n + if (T n).2 = 0 then 0 else 1

theorem occ_le (T : Nat → Nat × Nat) : ∀ n, occ T n ≤ n
  | 0 => Nat.le_refl _
  | n + 1 => by have := occ_le T n; unfold occ; split <;> omega

set_option maxHeartbeats 1000000 in
theorem countOccupied_calls (B nb tb db N M : Nat) (sv : Value) (bf : Nat → Value) (held touched : Int) (T : Nat → Nat × Nat) (D : Option (Nat → Int)) (w : World) (hN : N ≤ 65536)
    (h : NS w B nb tb db N M sv bf held touched T D) (hv : ∀ i, i < N → (T i).2 ≤ 1048576) :
    Calls Tryd.prog 23 #[.pointer (some ⟨nb, 0, none⟩), .int .i64 N] w fun e w' => e = .returned (.int .i64 (occ T N : Nat)) ∧ Below w.heap.size w w' := by
  have H : Hid (NS w B nb tb db N M sv bf held touched T D) := h
  have HV : Hid (∀ i, i < N → (T i).2 ≤ 1048576) := hv
  clear h hv
  go_enter Tryd.func23, Tryd.ntmps23
  go_wp2
  go_loopw [5, 6] (fun q i wr => ∃ k : Nat, k ≤ N ∧ i = .int .i64 k ∧ q = .int .i64 (occ T k : Nat) ∧ Hid (Below w.heap.size w wr)) (fun _ i _ => N - (intOf i).toNat)
  case atStart => exact ⟨0, Nat.zero_le _, rfl, rfl, Below.refl _ _⟩
  case round =>
    obtain ⟨k, hk, rfl, rfl, hw⟩ := hrel
    have ho := occ_le T k
    by_cases hlt : k < N
    · have NR := H.out.below hw.out
      have hvk := HV.out k hlt
      have cb : ∀ j, j < 4 → wr.cell? ⟨tb, k * 5 + 1 + j, none⟩ = some (.int .u8 ((((T k).2 / 256 ^ j) % 256 : Nat) : Int)) := fun j hj => by
        rw [NR.tab.cell (i := k * 5 + 1 + j) (by omega), tabf_byte T k j hj]
      have SN : Hid (Calls Tryd.prog 20 #[.pointer (some ⟨nb, 0, none⟩), .int .i64 k] wr fun e w' => e = .returned (.agg #[.int .u8 (((T k).2 / 256 ^ 0 % 256 : Nat) : Int), .int .u8 (((T k).2 / 256 ^ 1 % 256 : Nat) : Int), .int .u8 (((T k).2 / 256 ^ 2 % 256 : Nat) : Int), .int .u8 (((T k).2 / 256 ^ 3 % 256 : Nat) : Int)]) ∧ Below wr.heap.size wr w') :=
        slotName_calls nb tb N k _ _ _ _ wr hlt (NR.set.cell (i := 2) (by decide)) (cb 0 (by decide)) (cb 1 (by decide)) (cb 2 (by decide)) (cb 3 (by decide))
      have SV : Hid (∀ W, Calls Tryd.prog 29 #[.agg #[.int .u8 (((T k).2 / 256 ^ 0 % 256 : Nat) : Int), .int .u8 (((T k).2 / 256 ^ 1 % 256 : Nat) : Int), .int .u8 (((T k).2 / 256 ^ 2 % 256 : Nat) : Int), .int .u8 (((T k).2 / 256 ^ 3 % 256 : Nat) : Int)]] W fun e w' => e = .returned (.int .u32 ((T k).2 : Nat)) ∧ Below W.heap.size W w') := fun W => by
        have m : ∀ j, (T k).2 / 256 ^ j % 256 < 256 := fun j => Nat.mod_lt _ (by decide)
        have := slotValue_calls _ _ _ _ W (m 0) (m 1) (m 2) (m 3)
        rwa [le4 _ (by omega)] at this
      have HS : Hid (occ T (k + 1) = occ T k + if (T k).2 = 0 then 0 else 1) := rfl
      clear NR cb
      generalize (T k).2 / 256 ^ 0 % 256 = b0 at *
      generalize (T k).2 / 256 ^ 1 % 256 = b1 at *
      generalize (T k).2 / 256 ^ 2 % 256 = b2 at *
      generalize (T k).2 / 256 ^ 3 % 256 = b3 at *
      generalize (T k).2 = vk at *
      by_cases h0 : vk = 0
      · have e0 : ((vk : Int) != 0) = false := by rw [h0]; rfl
        have H0 : Hid (vk = 0) := h0
        clear h0
        go_wp2_with fail
        refine SN.out.mono ?_
        rintro e w2 ⟨rfl, hb2⟩
        go_wp2_with fail
        refine (SV.out _).mono ?_
        rintro e w3 ⟨rfl, hb3⟩
        have HB : Hid (Below w.heap.size w w3) := hw.out.trans ((hb2.trans (hb3.mono hb2.size)).mono hw.out.size)
        clear hb2 hb3
        go_wp2_with fail
        go_roundw
        case rel => exact ⟨k + 1, by omega, by go_num, by rw [HS.out, if_pos H0.out]; rfl, HB⟩
        case measure => simp [intOf]; omega
      · have e0 : ((vk : Int) != 0) = true := by rw [bne_iff_ne]; omega
        go_wp2_with fail
        refine SN.out.mono ?_
        rintro e w2 ⟨rfl, hb2⟩
        go_wp2_with fail
        refine (SV.out _).mono ?_
        rintro e w3 ⟨rfl, hb3⟩
        have HB : Hid (Below w.heap.size w w3) := hw.out.trans ((hb2.trans (hb3.mono hb2.size)).mono hw.out.size)
        clear hb2 hb3
        go_wp2_with fail
        go_roundw
        case rel => exact ⟨k + 1, by omega, by go_num, by rw [HS.out, if_neg h0]; go_num, HB⟩
        case measure => simp [intOf]; omega
    · obtain rfl : k = N := by omega
      go_wp2
      go_ret
      exact ⟨rfl, hw.out⟩

/-- What the bound on total length says where it says yes. -/
def Short (n0 n1 : Nat) (Ln : Nat → Nat) : Prop := n0 ≤ 1048576 ∧ n1 ≤ 1048576 ∧ ∀ i, i < n1 → Ln i ≤ 1048576

set_option maxHeartbeats 2000000 in
theorem zzBytes_calls (a0 a1 a2 a3 a4 : Option Addr) (n0 c0 n1 c1 n2 c2 n3 c3 n4 c4 : Nat) (x5 x6 : Int) (A : Nat → Option Addr) (Ln C : Nat → Nat) (w : World)
    (h0 : n0 ≤ 9223372036854775807) (h1 : n1 ≤ 9223372036854775807) (h2 : n2 ≤ 9223372036854775807) (h3 : n3 ≤ 9223372036854775807) (h4 : n4 ≤ 9223372036854775807)
    (hr : Row w a1 n1 (fun i => .slice (A i) (Ln i) (C i))) (hl : ∀ i, i < n1 → Ln i ≤ 9223372036854775807) :
    Calls Tryd.prog 10 #[.slice a0 n0 c0, .slice a1 n1 c1, .slice a2 n2 c2, .slice a3 n3 c3, .slice a4 n4 c4, .int .i64 x5, .int .i64 x6] w fun e w' =>
      (e = .returned (.bool true) ∧ Short n0 n1 Ln ∨ e = .returned (.bool false)) ∧ w' = w := by
  have HR : Hid (Row w a1 n1 (fun i => .slice (A i) (Ln i) (C i))) := hr
  have HL : Hid (∀ i, i < n1 → Ln i ≤ 9223372036854775807) := hl
  clear hr hl
  by_cases hs : n0 + n1 ≤ 1048576
  · go_enter Tryd.func10, Tryd.ntmps10
    go_wp2
    go_loop [15, 16] (fun q i => ∃ (k : Nat) (s : Nat), k ≤ n1 ∧ i = .int .i64 k ∧ q = .int .i64 s ∧ s ≤ 1048576 ∧ Hid (∀ j, j < k → Ln j ≤ 1048576)) (fun _ i => n1 - (intOf i).toNat)
    case atStart => exact ⟨0, n0 + n1, Nat.zero_le _, rfl, by go_num, hs, fun _ h => absurd h (Nat.not_lt_zero _)⟩
    case round =>
      obtain ⟨k, s, hk, rfl, rfl, hs1, hno⟩ := hrel
      by_cases hlt : k < n1
      · obtain ⟨b, o, rfl, hc⟩ := HR.out (by omega)
        have c1 : w.cell? ⟨b, o + k, none⟩ = some (.slice (A k) (Ln k) (C k)) := hc k hlt
        have hlk := HL.out k hlt
        have NX : Hid (Ln k ≤ 1048576 → ∀ j, j < k + 1 → Ln j ≤ 1048576) := fun h j hj => by
          by_cases e : j = k
          · subst e; exact h
          · exact hno.out j (by omega)
        clear hc
        generalize A k = Ak at *
        generalize Ln k = Lk at *
        generalize C k = Ck at *
        by_cases hbad : 1048576 < Lk ∨ 1048576 < s + Lk
        · go_wp2
          all_goals
            go_ret
            exact ⟨.inr rfl, rfl⟩
        · go_wp2
          go_round
          case rel => exact ⟨k + 1, s + Lk, by omega, by go_num, by go_num, by omega, NX.out (by omega)⟩
          case measure => simp [intOf]; omega
      · obtain rfl : k = n1 := by omega
        go_wp2
        all_goals go_ret
        all_goals first | exact ⟨.inr rfl, rfl⟩ | exact ⟨.inl ⟨rfl, by omega, by omega, hno.out⟩, rfl⟩
  · go_enter Tryd.func10, Tryd.ntmps10
    go_wp2
    all_goals
      go_ret
      exact ⟨.inr rfl, rfl⟩

end Go.Proofs.Qxb6613752aDoor.W
