import Derived.Test.Qxb6614450aHeld
import Derived.WalkKit
import Derived.ProofKit
import Derived.OpenShut
import Derived.ShutString
import Derived.ChangeOld
import Derived.Below
import Derived.Deep.Slices
/-! The arguments, opened: an id (type 25) and a slice of ids (type 24). -/
namespace Go.Proofs.Qxb6614450a.W
open Go.ChangeShapes Go.WideShapes Go.ChangeAt Go.RowKit Go.Deep

theorem own : ownKnob Try.prog.godebug = none := by kernel_rfl
theorem laidOut : laidOutB Try.prog = true := by kernel_rfl
theorem cells25 : Try.prog.cellsOf 25 = 20 := by kernel_rfl
theorem cells5 : Try.prog.cellsOf 5 = 1 := by kernel_rfl

theorem wf_u8 {n : Int} (h : (Lit.int .u8 n).wf = true) : 0 ≤ n ∧ n ≤ 255 := by
  have : IntKind.u8.min ≤ n ∧ n ≤ IntKind.u8.max := by simpa [Lit.wf] using h
  exact this
theorem wf_i64 {n : Int} (h : (Lit.int .i64 n).wf = true) : -9223372036854775808 ≤ n ∧ n ≤ 9223372036854775807 := by
  have : IntKind.i64.min ≤ n ∧ n ≤ IntKind.i64.max := by simpa [Lit.wf] using h
  exact this

theorem okWide_array {P : Program} {w : World} {r : Reach} {base n : Nat} {t e : TypeId} {v : Value} (ht : P.underlying t = some (.array n e)) (h : Value.okWide P w r base t v) : ∃ cs, v = .agg cs ∧ cs.size = P.cellsOf t := by
  simp only [Value.okWide, ht] at h
  obtain ⟨cs, h1, h2, _⟩ := h
  exact ⟨cs, h1, h2⟩

/-- An id's cells. -/
theorem idCells {H : Type} {enc : TypeId × Value → H} {W : World} {fuel base : Nat} {sp : Nat → Bool} {held : Bool} {cs : List Value} {x : DataW H × List MemPlace}
    (h : DataW.trod enc Try.prog W base sp held fuel 25 cs = some x) : ∃ g : Nat → Nat, (∀ j, g j < 256) ∧ cs = idL g := by
  obtain ⟨xs, m, _, _, hl, hx, hi⟩ := DataW.trod_array Try.underlying25 h
  rw [cells25] at hl
  rw [cells5] at hi
  have key : ∀ i, i < 20 → ∃ z : Int, cs[i]? = some (.int .u8 z) ∧ 0 ≤ z ∧ z ≤ 255 := by
    intro i h20
    have := hi i h20
    rw [List.getElem?_eq_getElem (by omega : i < xs.length), Nat.mul_one] at this
    obtain ⟨z, h1, _, h2⟩ := DataW.trod_int Try.underlying5 this
    have hz := wf_u8 h2
    refine ⟨z, ?_, hz.1, hz.2⟩
    have hd : (cs.drop i).take 1 = [.int .u8 z] := h1
    have : ((cs.drop i).take 1)[0]? = some (.int .u8 z) := by rw [hd]; rfl
    simpa using this
  obtain ⟨Z, hZ⟩ := choose_lt (α := Int) (p := fun i z => cs[i]? = some (.int .u8 z) ∧ 0 ≤ z ∧ z ≤ 255) key
  refine ⟨fun i => if i < 20 then (Z i).toNat else 0, fun j => ?_, ?_⟩
  · by_cases h : j < 20
    · have := hZ j h
      simp only [h, if_true]
      omega
    · simp [h]
  · refine List.ext_getElem? fun i => ?_
    by_cases h : i < 20
    · have := hZ i h
      rw [idL_get _ _ h, this.1]
      simp only [h, if_true]
      rw [show ((Z i).toNat : Int) = Z i by omega]
    · rw [List.getElem?_eq_none (by omega), List.getElem?_eq_none (by rw [idL_len]; omega)]

theorem id_of {H : Type} {enc : TypeId × Value → H} {W : World} {r : Reach} {base : Nat} {v : Value} {d : DataW H} {p : List MemPlace} {held : Bool} (hv : Value.okWide Try.prog W r base 25 v)
    (h : ∃ fuel, DataW.trod enc Try.prog W 0 (fun _ => true) held fuel 25 v.cells.toList = some (d, p)) : ∃ g : Nat → Nat, (∀ j, g j < 256) ∧ v = .agg (idL g).toArray := by
  obtain ⟨cs, rfl, hs⟩ := okWide_array Try.underlying25 hv
  obtain ⟨fuel, h⟩ := h
  obtain ⟨g, hg, he⟩ := idCells h
  have he : cs.toList = idL g := he
  exact ⟨g, hg, by rw [← he]⟩

theorem ids_of {H : Type} {enc : TypeId × Value → H} {W : World} {a : Option Addr} {n c : Nat} {d : DataW H} {p : List MemPlace} {held : Bool}
    (h : ∃ fuel, DataW.trod enc Try.prog W 0 (fun _ => true) held fuel 24 (Value.slice a n c).cells.toList = some (d, p)) :
    ∃ F : Nat → Nat → Nat, (∀ i j, F i j < 256) ∧ n ≤ 9223372036854775807 ∧ n ≤ c ∧ (0 < c → ∃ b o, a = some ⟨b, o, none⟩) ∧ Ids W a n F := by
  obtain ⟨fuel, h⟩ := h
  rcases open_slice Try.underlying24 h with ⟨hcs, _⟩ | ⟨x, l, cc, m, k, D, Pl, hcs, _, hl, hm, hmm, _, hx⟩
  · simp [Value.cells] at hcs
    obtain ⟨rfl, rfl, rfl⟩ := hcs
    exact ⟨fun _ _ => 0, fun _ _ => Nat.succ_pos _, by omega, by omega, fun h => absurd h (Nat.lt_irrefl _), fun h => absurd h (Nat.lt_irrefl _)⟩
  · simp [Value.cells] at hcs
    obtain ⟨rfl, rfl, rfl⟩ := hcs
    have hmm : m = c := hmm
    subst hmm
    rw [cells25] at hx
    have hm' : m ≤ 9223372036854775807 := hm
    have key : ∀ i, i < m → ∃ g : Nat → Nat, (∀ j, g j < 256) ∧ ∀ j, j < 20 → W.cell? ((x.add (i * 20)).add j) = some (.int .u8 (g j : Nat)) := by
      intro i hi
      obtain ⟨cs', h1, h2⟩ := hx i hi
      obtain ⟨g, hg, rfl⟩ := idCells h2
      obtain ⟨_, _, h3⟩ := World.cells?_some h1
      exact ⟨g, hg, fun j hj => by rw [h3 j hj, idL_get _ _ hj]⟩
    obtain ⟨b, o, sp⟩ := x
    have hsp : 0 < m → sp = none := fun h0 => by
      obtain ⟨g, _, h⟩ := key 0 h0
      simpa [Addr.add] using World.cell?_spot (h 0 (by omega))
    obtain ⟨G, hG⟩ := choose_lt (α := Nat → Nat) (p := fun i g => (∀ j, g j < 256) ∧ ∀ j, j < 20 → W.cell? (((⟨b, o, sp⟩ : Addr).add (i * 20)).add j) = some (.int .u8 (g j : Nat))) key
    refine ⟨fun i => if i < m then G i else fun _ => 0, fun i j => ?_, by omega, hl, fun h0 => ⟨b, o, by rw [hsp h0]⟩, fun h0 => ⟨b, o, by rw [hsp (by omega)], fun i hi => ?_⟩⟩
    · by_cases h : i < m
      · simp only [h, if_true]; exact (hG i h).1 j
      · simp [h]
    · have him : i < m := by omega
      intro j hj
      have := (hG i him).2 j hj
      have hs := hsp (by omega)
      subst hs
      simp only [him, if_true]
      rwa [Addr.add_lit, Addr.add_lit] at this
end Go.Proofs.Qxb6614450a.W
