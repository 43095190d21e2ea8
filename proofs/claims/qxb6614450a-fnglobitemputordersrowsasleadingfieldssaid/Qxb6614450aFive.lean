import Derived.Test.Qxb6614450aBytes
namespace Go.Proofs.Qxb6614450a.W
open Go.RowKit

theorem has_split (X : Nat → Nat) (k n x : Nat) (hk : k ≤ n) : has X n x = (has X k x || has (fun i => X (k + i)) (n - k) x) := by
  rw [Bool.eq_iff_iff, Bool.or_eq_true, has_iff, has_iff, has_iff]
  constructor
  · rintro ⟨i, hi, h⟩
    by_cases e : i < k
    · exact .inl ⟨i, e, h⟩
    · exact .inr ⟨i - k, by omega, by rw [show k + (i - k) = i by omega]; exact h⟩
  · rintro (⟨i, hi, h⟩ | ⟨i, hi, h⟩)
    · exact ⟨i, by omega, h⟩
    · exact ⟨k + i, by omega, h⟩

theorem Sorted.first {X : Nat → Nat} {n k : Nat} (h : Sorted X n) (hk : k ≤ n) : Sorted X k := fun i j hij hj => h i j hij (by omega)
theorem Sorted.last {X : Nat → Nat} {n k : Nat} (h : Sorted X n) : Sorted (fun i => X (k + i)) (n - k) := fun i j hij hj => h (k + i) (k + j) (by omega) (by omega)

theorem Objs.first {w : World} {a : Option Addr} {n k : Nat} {F : Nat → Nat → Nat} (h : Objs w a n F) (hk : k ≤ n) : Objs w a k F := fun h0 => by
  obtain ⟨b, o, rfl, hc⟩ := h (by omega)
  exact ⟨b, o, rfl, fun i hi => hc i (by omega)⟩

theorem Objs.last {w : World} {b o n k : Nat} {F : Nat → Nat → Nat} (h : Objs w (some ⟨b, o, none⟩) n F) : Objs w (some ⟨b, o + k * 24, none⟩) (n - k) (fun i => F (k + i)) := fun h0 => by
  obtain ⟨b', o', e, hc⟩ := h (by omega)
  simp only [Option.some.injEq, Addr.mk.injEq, and_true] at e
  obtain ⟨rfl, rfl⟩ := e
  refine ⟨b, o + k * 24, rfl, fun i hi => ?_⟩
  have := hc (k + i) (by omega)
  rw [show o + (k + i) * 24 = o + k * 24 + i * 24 by omega] at this
  exact this

theorem Ids.first {w : World} {a : Option Addr} {n k : Nat} {F : Nat → Nat → Nat} (h : Ids w a n F) (hk : k ≤ n) : Ids w a k F := fun h0 => by
  obtain ⟨b, o, rfl, hc⟩ := h (by omega)
  exact ⟨b, o, rfl, fun i hi => hc i (by omega)⟩

theorem Ids.last {w : World} {b o n k : Nat} {F : Nat → Nat → Nat} (h : Ids w (some ⟨b, o, none⟩) n F) : Ids w (some ⟨b, o + k * 20, none⟩) (n - k) (fun i => F (k + i)) := fun h0 => by
  obtain ⟨b', o', e, hc⟩ := h (by omega)
  simp only [Option.some.injEq, Addr.mk.injEq, and_true] at e
  obtain ⟨rfl, rfl⟩ := e
  refine ⟨b, o + k * 20, rfl, fun i hi => ?_⟩
  have := hc (k + i) (by omega)
  rw [show o + (k + i) * 20 = o + k * 20 + i * 20 by omega] at this
  exact this

end Go.Proofs.Qxb6614450a.W
