import Derived.Test.Qxb6614450aMake
namespace Go.Proofs.Qxb6614450a.W
open Go.RowKit

set_option maxHeartbeats 1000000 in
set_option maxRecDepth 100000 in
/-- The bound on the length, before the scan: true says that the ids are few. -/
theorem zzBytes9_calls (a : Option Addr) (n c : Nat) (g : Nat → Nat) (k : Int) (w : World) (hn : n ≤ 9223372036854775807) :
    Calls Try.prog 9 #[.slice a n c, .agg (idL g).toArray, .int .i64 k] w fun e w' => ((e = .returned (.bool true) ∧ n ≤ 1048576) ∨ e = .returned (.bool false)) ∧ Below w.heap.size w w' := by
  have B1 : Hid (Below w.heap.size w (w.alloc (.cells (idL g).toArray 25))) := below_alloc _ _
  by_cases h1 : 1048576 < n
  · have t1 : decide ((1048576 : Int) < (n : Int)) = true := by simp; omega
    go_enter Try.func9, Try.ntmps9
    go_wp2_with fail
    go_ret
    exact ⟨.inr rfl, B1.out⟩
  · have t1 : decide ((1048576 : Int) < (n : Int)) = false := by simp; omega
    have hn2 : n ≤ 1048576 := by omega
    clear hn
    go_enter Try.func9, Try.ntmps9
    go_wp2_with fail
    generalize w.alloc (.cells (idL g).toArray 25) = W1 at *
    go_loopg [7, 8] n (fun gk s i wr => ∃ p t : Nat, p ≤ n ∧ t ≤ 1048576 ∧ s = .int .i64 t ∧ i = .int .i64 p ∧ Hid (p + gk = n) ∧ Hid (wr = W1))
    case atStart => exact ⟨0, n, Nat.zero_le _, by omega, rfl, rfl, by show _ = _; omega, rfl⟩
    case round =>
      obtain ⟨p, t, hp, ht, rfl, rfl, HG, HW⟩ := hrel
      by_cases hlt : p < n
      · by_cases hbig : 1048576 < t + 20
        · have t2 : decide ((1048576 : Int) < (t : Int) + 20) = true := by simp; omega
          clear hbig h1 t1
          go_wp2_with fail
          go_ret
          exact ⟨.inr rfl, by rw [HW.out]; exact B1.out⟩
        · have t2 : decide ((1048576 : Int) < (t : Int) + 20) = false := by simp; omega
          have HB : Hid (t + 20 ≤ 1048576) := by show _ ≤ _; omega
          clear hbig h1 t1
          go_wp2_with fail
          go_roundg (n - (p + 1))
          case measure => have := HG.out; omega
          case rel => exact ⟨p + 1, t + 20, by omega, HB.out, by go_num, by go_num, by show _ = _; omega, HW⟩
      · go_wp2_with fail
        go_ret
        exact ⟨.inl ⟨rfl, by omega⟩, by rw [HW.out]; exact B1.out⟩

end Go.Proofs.Qxb6614450a.W
