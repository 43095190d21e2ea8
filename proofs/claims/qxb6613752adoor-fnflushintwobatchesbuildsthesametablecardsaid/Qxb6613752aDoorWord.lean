import Derived.Test.Qxb6613752aDoorRows
import Derived.WalkKit
import Derived.WalkLawsBesides
import Derived.Lib.EndianBits
import Derived.Laws.BitsAllLaws
import Derived.Test.Qxb6613752aDoorSwar
import Derived.Deep.QuietTactic
import Derived.BigQuiet
namespace Go.Proofs.Qxb6613752aDoor.W
open Go.RowKit

theorem ret_int {k : IntKind} {a b : Int} (h : a = b) : Ending.returned (.int k a) = .returned (.int k b) := by rw [h]

theorem cell_lt {w : World} {a : Addr} {v : Value} (h : w.cell? a = some v) : a.block < w.heap.size := by
  unfold World.cell? at h
  by_cases e : a.block < w.heap.size
  · exact e
  · rw [Array.getElem?_eq_none (by omega)] at h
    simp at h

/-- A cell that was there, behind a new block. -/
theorem cell_alloc {w : World} {a : Addr} {v : Value} (o : Obj) (h : w.cell? a = some v) : (w.alloc o).cell? a = some v := by
  rw [World.cell?_alloc_lt _ _ _ (cell_lt h)]
  exact h

set_option maxHeartbeats 1000000 in
set_option maxRecDepth 100000 in
/-- The word that eight bytes spell, the least first. -/
theorem uint64_calls (g o n c : Nat) (b0 b1 b2 b3 b4 b5 b6 b7 : Nat) (w : World) (hn : 8 ≤ n)
    (h0 : b0 < 256) (h1 : b1 < 256) (h2 : b2 < 256) (h3 : b3 < 256) (h4 : b4 < 256) (h5 : b5 < 256) (h6 : b6 < 256) (h7 : b7 < 256)
    (c0 : w.cell? ⟨g, o, none⟩ = some (.int .u8 b0)) (c1 : w.cell? ⟨g, o + 1, none⟩ = some (.int .u8 b1)) (c2 : w.cell? ⟨g, o + 2, none⟩ = some (.int .u8 b2)) (c3 : w.cell? ⟨g, o + 3, none⟩ = some (.int .u8 b3)) (c4 : w.cell? ⟨g, o + 4, none⟩ = some (.int .u8 b4)) (c5 : w.cell? ⟨g, o + 5, none⟩ = some (.int .u8 b5)) (c6 : w.cell? ⟨g, o + 6, none⟩ = some (.int .u8 b6)) (c7 : w.cell? ⟨g, o + 7, none⟩ = some (.int .u8 b7)) :
    Calls Tryd.prog 32 #[.agg #[], .slice (some ⟨g, o, none⟩) n c] w fun e w' =>
      e = .returned (.int .u64 ((b0 + 256 * (b1 + 256 * (b2 + 256 * (b3 + 256 * (b4 + 256 * (b5 + 256 * (b6 + 256 * b7)))))) : Nat) : Int)) ∧ Below w.heap.size w w' := by
  have d0 := cell_alloc (.cells #[] 71) c0
  have d1 := cell_alloc (.cells #[] 71) c1
  have d2 := cell_alloc (.cells #[] 71) c2
  have d3 := cell_alloc (.cells #[] 71) c3
  have d4 := cell_alloc (.cells #[] 71) c4
  have d5 := cell_alloc (.cells #[] 71) c5
  have d6 := cell_alloc (.cells #[] 71) c6
  have d7 := cell_alloc (.cells #[] 71) c7
  clear c0 c1 c2 c3 c4 c5 c6 c7
  have q0 : 0 < n := by omega
  have q1 : (1 : Int) < (n : Int) := by omega
  have q2 : (2 : Int) < (n : Int) := by omega
  have q3 : (3 : Int) < (n : Int) := by omega
  have q4 : (4 : Int) < (n : Int) := by omega
  have q5 : (5 : Int) < (n : Int) := by omega
  have q6 : (6 : Int) < (n : Int) := by omega
  have q7 : (7 : Int) < (n : Int) := by omega
  go_enter Tryd.func32, Tryd.ntmps32
  go_wp2
  go_quiet (fail)
  go_wp2
  go_ret
  refine ⟨ret_int ?_, ((Below.refl _ w).alloc (Nat.le_refl _) _).trans ⟨rfl, rfl, rfl, Nat.le_refl _, fun _ _ => rfl⟩⟩
  simp (disch := omega) only [u64_or8, u64_or16, u64_or24, u64_or32, u64_or40, u64_or48, u64_or56]
  push_cast
  omega

set_option maxHeartbeats 1000000 in
set_option maxRecDepth 100000 in
/-- The word that four bytes spell, the least first. -/
theorem uint32_calls (g o n c : Nat) (b0 b1 b2 b3 : Nat) (w : World) (hn : 4 ≤ n)
    (h0 : b0 < 256) (h1 : b1 < 256) (h2 : b2 < 256) (h3 : b3 < 256)
    (c0 : w.cell? ⟨g, o, none⟩ = some (.int .u8 b0)) (c1 : w.cell? ⟨g, o + 1, none⟩ = some (.int .u8 b1)) (c2 : w.cell? ⟨g, o + 2, none⟩ = some (.int .u8 b2)) (c3 : w.cell? ⟨g, o + 3, none⟩ = some (.int .u8 b3)) :
    Calls Tryd.prog 39 #[.agg #[], .slice (some ⟨g, o, none⟩) n c] w fun e w' =>
      e = .returned (.int .u32 ((b0 + 256 * (b1 + 256 * (b2 + 256 * b3)) : Nat) : Int)) ∧ Below w.heap.size w w' := by
  have d0 := cell_alloc (.cells #[] 71) c0
  have d1 := cell_alloc (.cells #[] 71) c1
  have d2 := cell_alloc (.cells #[] 71) c2
  have d3 := cell_alloc (.cells #[] 71) c3
  clear c0 c1 c2 c3
  have q0 : 0 < n := by omega
  have q1 : (1 : Int) < (n : Int) := by omega
  have q2 : (2 : Int) < (n : Int) := by omega
  have q3 : (3 : Int) < (n : Int) := by omega
  go_enter Tryd.func39, Tryd.ntmps39
  go_wp2
  go_quiet (fail)
  go_wp2
  go_ret
  refine ⟨ret_int ?_, ((Below.refl _ w).alloc (Nat.le_refl _) _).trans ⟨rfl, rfl, rfl, Nat.le_refl _, fun _ _ => rfl⟩⟩
  simp (disch := omega) only [u32_or8, u32_or16, u32_or24]
  push_cast
  omega

theorem E8 : Swar.E 8 = 72340172838076673 := by decide

theorem equal_eq (x c : Nat) (hx : x < 18446744073709551616) (hc : c < 256) :
    bits .and .u64 (bits .andNot .u64 (IntKind.u64.wrap (bits .xor .u64 (x : Int) (72340172838076673 * (c : Int)) - 72340172838076673)) (bits .xor .u64 (x : Int) (72340172838076673 * (c : Int)))) 9259542123273814144 = ((Swar.f 8 (x ^^^ Swar.E 8 * c) : Nat) : Int) := by
  have hX : x ^^^ 72340172838076673 * c < 18446744073709551616 := Nat.xor_lt_two_pow (n := 64) hx (by omega)
  have e0 : (72340172838076673 : Int) * (c : Int) = ((72340172838076673 * c : Nat) : Int) := by omega
  rw [e0, u64_xor_nat _ _ hx (by omega), E8]
  have e1 : IntKind.u64.wrap (((x ^^^ 72340172838076673 * c : Nat) : Int) - 72340172838076673) = (((x ^^^ 72340172838076673 * c) + (18446744073709551616 - 72340172838076673)) % 18446744073709551616 : Nat) := by
    rw [IntKind.wrap_u64]; omega
  rw [e1]
  generalize x ^^^ 72340172838076673 * c = X at hX
  rw [u64_andNot_nat _ _ (Nat.mod_lt _ (by decide)) hX, show (9259542123273814144 : Int) = ((9259542123273814144 : Nat) : Int) from rfl, u64_and_nat _ _ (Nat.lt_of_le_of_lt Nat.and_le_left (Nat.mod_lt _ (by decide))) (by decide)]
  unfold Swar.f
  rw [E8, show (256 : Nat) ^ 8 = 18446744073709551616 by decide, show 128 * 72340172838076673 = 9259542123273814144 by decide]

set_option maxHeartbeats 1000000 in
theorem equal_calls (x c : Nat) (w : World) (hx : x < 18446744073709551616) (hc : c < 256) :
    Calls Tryd.prog 37 #[.int .u64 x, .int .u8 c] w fun e w' => e = .returned (.int .u64 ((Swar.f 8 (x ^^^ Swar.E 8 * c) : Nat) : Int)) ∧ w' = w := by
  have h := equal_eq x c hx hc
  have H : Hid _ := h
  clear h
  go_enter Tryd.func37, Tryd.ntmps37
  go_wp2
  go_ret
  exact ⟨ret_int H.out, rfl⟩

theorem f8_lt (X : Nat) : Swar.f 8 X < 18446744073709551616 := Swar.f_lt 8 X

set_option maxHeartbeats 1000000 in
/-- The marks of the quotes and backslashes of a word. -/
theorem qob_calls (x : Nat) (w : World) (hx : x < 18446744073709551616) :
    Calls Tryd.prog 31 #[.int .u64 x] w fun e w' => e = .returned (.int .u64 ((Swar.m 8 x : Nat) : Int)) ∧ w' = w := by
  have h1 := f8_lt (x ^^^ Swar.E 8 * 34)
  have h2 := f8_lt (x ^^^ Swar.E 8 * 92)
  have H : Hid (bits .or .u64 ((Swar.f 8 (x ^^^ Swar.E 8 * 34) : Nat) : Int) ((Swar.f 8 (x ^^^ Swar.E 8 * 92) : Nat) : Int) = ((Swar.m 8 x : Nat) : Int)) := u64_or_nat _ _ h1 h2
  have K1 : Hid (Calls Tryd.prog 37 #[.int .u64 x, .int .u8 34] w fun e w' => e = .returned (.int .u64 ((Swar.f 8 (x ^^^ Swar.E 8 * 34) : Nat) : Int)) ∧ w' = w) := equal_calls x 34 w hx (by decide)
  have K2 : Hid (Calls Tryd.prog 37 #[.int .u64 x, .int .u8 92] w fun e w' => e = .returned (.int .u64 ((Swar.f 8 (x ^^^ Swar.E 8 * 92) : Nat) : Int)) ∧ w' = w) := equal_calls x 92 w hx (by decide)
  generalize Swar.f 8 (x ^^^ Swar.E 8 * 34) = f1 at *
  generalize Swar.f 8 (x ^^^ Swar.E 8 * 92) = f2 at *
  go_enter Tryd.func31, Tryd.ntmps31
  go_wp2_with fail
  refine K1.out.mono ?_
  rintro e w' ⟨rfl, rfl⟩
  go_wp2_with fail
  refine K2.out.mono ?_
  rintro e w' ⟨rfl, rfl⟩
  go_wp2_with fail
  go_ret
  exact ⟨ret_int H.out, rfl⟩

theorem m8_lt (x : Nat) : Swar.m 8 x < 18446744073709551616 := Nat.or_lt_two_pow (n := 64) (f8_lt _) (f8_lt _)

/-- The table of bits.TrailingZeros64, as the row lays it. -/
def Tab (w : World) : Prop := ∀ j, j < Lib.deBruijn64tab.length → w.cell? ⟨1, j, none⟩ = some (.int .u8 (Lib.deBruijn64tab.getD j 0))

theorem wrap_neg_u64 (x : Nat) (h : x ≠ 0) (hx : x < 18446744073709551616) : IntKind.u64.wrap (-(x : Int)) = ((18446744073709551616 - x : Nat) : Int) := by rw [IntKind.wrap_u64]; omega

theorem tz64_key (x a : Nat) (hx : x < 18446744073709551616) (hx0 : x ≠ 0) (hlow : x &&& (18446744073709551616 - x) = a) :
    IntKind.u64.wrap (bits BinOp.and IntKind.u64 (x : Int) (IntKind.u64.wrap (-(x : Int))) * 285870213051353865) / 288230376151711744 = ((a * 285870213051353865 % 18446744073709551616 / 288230376151711744 : Nat) : Int) := by
  rw [wrap_neg_u64 x hx0 hx, u64_and_nat x _ hx (by omega), hlow, IntKind.wrap_u64]
  omega

set_option maxHeartbeats 1000000 in
theorem tz64_core (x k idx : Nat) (w : World) (hx0 : ((x : Int) == 0) = false)
    (key : IntKind.u64.wrap (bits BinOp.and IntKind.u64 (x : Int) (IntKind.u64.wrap (-(x : Int))) * 285870213051353865) / 288230376151711744 = (idx : Int))
    (hi : idx < 64) (hk : k < 64) (hcell : w.cell? ⟨1, idx, none⟩ = some (.int .u8 k)) :
    Calls Tryd.prog 38 #[.int .u64 x] w fun e w' => e = .returned (.int .i64 k) ∧ w' = w := by
  go_enter Tryd.func38, Tryd.ntmps38
  go_wp2_with (simp only [key])
  go_ret
  exact ⟨rfl, rfl⟩

theorem tz64_calls (x : Nat) (hx : x < 18446744073709551616) (hx0 : x ≠ 0) (w : World) (hT : Tab w) :
    Calls Tryd.prog 38 #[.int .u64 x] w fun e w' => e = .returned (.int .i64 (Lib.ctz 64 x)) ∧ w' = w := by
  obtain ⟨hlow, hk⟩ := Lib.lowest_bit 64 x hx0 hx
  obtain ⟨hi, htab⟩ := Lib.deBruijn64_at _ hk
  have hcell := hT _ hi
  rw [htab] at hcell
  exact tz64_core x _ _ w (by simp; omega) (tz64_key x _ hx hx0 hlow) hi hk hcell

set_option maxHeartbeats 1000000 in
theorem first_calls (x k : Nat) (hx : x < 18446744073709551616) (hx0 : x ≠ 0) (w : World) (hT : Tab w) (hk : Lib.ctz 64 x = k) (hk64 : k < 64) :
    Calls Tryd.prog 33 #[.int .u64 x] w fun e w' => e = .returned (.int .i64 ((k / 8 : Nat) : Int)) ∧ w' = w := by
  have K : Hid (Calls Tryd.prog 38 #[.int .u64 x] w fun e w' => e = .returned (.int .i64 k) ∧ w' = w) := hk ▸ tz64_calls x hx hx0 w hT
  clear hT hk
  go_enter Tryd.func33, Tryd.ntmps33
  go_wp2_with fail
  refine K.out.mono ?_
  rintro e w' ⟨rfl, rfl⟩
  go_wp2_with fail
  go_ret
  exact ⟨ret_int (by omega), rfl⟩

end Go.Proofs.Qxb6613752aDoor.W
