import Derived.Test.Qxb6614450aOpen
import Derived.Test.Qxb6614450aGlobPlain
import Derived.Deep.Slices
/-! The arguments, opened: the fields of an item (type 37) and the bytes of a row (type 38). -/
namespace Go.Proofs.Qxb6614450a.W
open Go.ChangeShapes Go.WideShapes Go.ChangeAt Go.RowKit Go.Deep

theorem wf_u32 {n : Int} (h : (Lit.int .u32 n).wf = true) : 0 ≤ n ∧ n ≤ 4294967295 := by
  have : IntKind.u32.min ≤ n ∧ n ≤ IntKind.u32.max := by simpa [Lit.wf] using h
  exact this

section
variable {H : Type} {enc : TypeId × Value → H} {W : World} {base : Nat} {sp : Nat → Bool} {held : Bool}

theorem int_at {k : IntKind} {fuel : Nat} {ty : TypeId} {cs : List Value} {o : Nat} {x : DataW H × List MemPlace} (hu : Try.prog.underlying ty = some (.int k)) (hc : Try.prog.cellsOf ty = 1)
    (h : DataW.trod enc Try.prog W base sp held fuel ty ((cs.drop o).take (Try.prog.cellsOf ty)) = some x) : ∃ z, cs[o]? = some (.int k z) ∧ (Lit.int k z).wf = true := by
  rw [hc] at h
  obtain ⟨z, h1, _, h2⟩ := DataW.trod_int hu h
  refine ⟨z, ?_, h2⟩
  have : ((cs.drop o).take 1)[0]? = some (.int k z) := by rw [h1]; rfl
  simpa using this

theorem bool_at {fuel : Nat} {cs : List Value} {o : Nat} {x : DataW H × List MemPlace} (h : DataW.trod enc Try.prog W base sp held fuel 4 ((cs.drop o).take (Try.prog.cellsOf 4)) = some x) : ∃ b, cs[o]? = some (.bool b) := by
  rw [show Try.prog.cellsOf 4 = 1 by kernel_rfl] at h
  obtain ⟨z, h1, _⟩ := DataW.trod_bool Try.underlying4 h
  refine ⟨z, ?_⟩
  have : ((cs.drop o).take 1)[0]? = some (.bool z) := by rw [h1]; rfl
  simpa using this

theorem id_at {fuel : Nat} {cs : List Value} {o : Nat} {x : DataW H × List MemPlace} (h : DataW.trod enc Try.prog W base sp held fuel 25 ((cs.drop o).take (Try.prog.cellsOf 25)) = some x) : ∃ g : Nat → Nat, (∀ j, g j < 256) ∧ ∀ j, j < 20 → cs[o + j]? = (idL g)[j]? := by
  rw [cells25] at h
  obtain ⟨g, hg, he⟩ := idCells h
  refine ⟨g, hg, fun j hj => ?_⟩
  rw [← he, List.getElem?_take_of_lt hj, List.getElem?_drop]

theorem globCells {fuel : Nat} {cs : List Value} {x : DataW H × List MemPlace} (h : DataW.trod enc Try.prog W base sp held fuel 37 cs = some x) : ∃ G : Glob, G.Ok ∧ cs = globL G := by
  obtain ⟨xs, m, _, _, hl, hx, hi⟩ := DataW.trod_struct Try.underlying37 h
  rw [show Try.prog.cellsOf 37 = 60 by kernel_rfl] at hl
  have hx : xs.length = 22 := hx
  have hs : ∀ i, i < 22 → ∃ y, xs[i]? = some y := fun i h => ⟨_, List.getElem?_eq_getElem (by omega)⟩
  obtain ⟨y0, q0⟩ := hs 0 (by omega)
  obtain ⟨z0, c0, w0⟩ := int_at (k := .i64) (o := 0) Try.underlying2 (by kernel_rfl) ((hi 0 _ rfl).trans q0)
  replace w0 := wf_i64 w0
  obtain ⟨y1, q1⟩ := hs 1 (by omega)
  obtain ⟨z1, c1, w1⟩ := int_at (k := .i64) (o := 1) Try.underlying2 (by kernel_rfl) ((hi 1 _ rfl).trans q1)
  replace w1 := wf_i64 w1
  obtain ⟨y2, q2⟩ := hs 2 (by omega)
  obtain ⟨z2, c2⟩ := bool_at (o := 2) ((hi 2 _ rfl).trans q2)
  obtain ⟨y3, q3⟩ := hs 3 (by omega)
  obtain ⟨z3, c3, w3⟩ := int_at (k := .i64) (o := 3) Try.underlying2 (by kernel_rfl) ((hi 3 _ rfl).trans q3)
  replace w3 := wf_i64 w3
  obtain ⟨y4, q4⟩ := hs 4 (by omega)
  obtain ⟨z4, g4, c4⟩ := id_at (o := 4) ((hi 4 _ rfl).trans q4)
  obtain ⟨y5, q5⟩ := hs 5 (by omega)
  obtain ⟨z5, c5, w5⟩ := int_at (k := .u8) (o := 24) Try.underlying5 (by kernel_rfl) ((hi 5 _ rfl).trans q5)
  replace w5 := wf_u8 w5
  obtain ⟨n5, rfl⟩ : ∃ n : Nat, z5 = n := ⟨z5.toNat, by omega⟩
  obtain ⟨y6, q6⟩ := hs 6 (by omega)
  obtain ⟨z6, c6, w6⟩ := int_at (k := .i64) (o := 25) Try.underlying2 (by kernel_rfl) ((hi 6 _ rfl).trans q6)
  replace w6 := wf_i64 w6
  obtain ⟨y7, q7⟩ := hs 7 (by omega)
  obtain ⟨z7, c7, w7⟩ := int_at (k := .i64) (o := 26) Try.underlying2 (by kernel_rfl) ((hi 7 _ rfl).trans q7)
  replace w7 := wf_i64 w7
  obtain ⟨y8, q8⟩ := hs 8 (by omega)
  obtain ⟨z8, c8, w8⟩ := int_at (k := .u32) (o := 27) Try.underlying35 (by kernel_rfl) ((hi 8 _ rfl).trans q8)
  replace w8 := wf_u32 w8
  obtain ⟨n8, rfl⟩ : ∃ n : Nat, z8 = n := ⟨z8.toNat, by omega⟩
  obtain ⟨y9, q9⟩ := hs 9 (by omega)
  obtain ⟨z9, c9, w9⟩ := int_at (k := .i64) (o := 28) Try.underlying2 (by kernel_rfl) ((hi 9 _ rfl).trans q9)
  replace w9 := wf_i64 w9
  obtain ⟨y10, q10⟩ := hs 10 (by omega)
  obtain ⟨z10, c10, w10⟩ := int_at (k := .i64) (o := 29) Try.underlying2 (by kernel_rfl) ((hi 10 _ rfl).trans q10)
  replace w10 := wf_i64 w10
  obtain ⟨y11, q11⟩ := hs 11 (by omega)
  obtain ⟨z11, c11, w11⟩ := int_at (k := .i64) (o := 30) Try.underlying2 (by kernel_rfl) ((hi 11 _ rfl).trans q11)
  replace w11 := wf_i64 w11
  obtain ⟨y12, q12⟩ := hs 12 (by omega)
  obtain ⟨z12, c12, w12⟩ := int_at (k := .i64) (o := 31) Try.underlying2 (by kernel_rfl) ((hi 12 _ rfl).trans q12)
  replace w12 := wf_i64 w12
  obtain ⟨y13, q13⟩ := hs 13 (by omega)
  obtain ⟨z13, c13, w13⟩ := int_at (k := .u32) (o := 32) Try.underlying35 (by kernel_rfl) ((hi 13 _ rfl).trans q13)
  replace w13 := wf_u32 w13
  obtain ⟨n13, rfl⟩ : ∃ n : Nat, z13 = n := ⟨z13.toNat, by omega⟩
  obtain ⟨y14, q14⟩ := hs 14 (by omega)
  obtain ⟨z14, c14, w14⟩ := int_at (k := .u8) (o := 33) Try.underlying5 (by kernel_rfl) ((hi 14 _ rfl).trans q14)
  replace w14 := wf_u8 w14
  obtain ⟨n14, rfl⟩ : ∃ n : Nat, z14 = n := ⟨z14.toNat, by omega⟩
  obtain ⟨y15, q15⟩ := hs 15 (by omega)
  obtain ⟨z15, c15⟩ := bool_at (o := 34) ((hi 15 _ rfl).trans q15)
  obtain ⟨y16, q16⟩ := hs 16 (by omega)
  obtain ⟨z16, c16⟩ := bool_at (o := 35) ((hi 16 _ rfl).trans q16)
  obtain ⟨y17, q17⟩ := hs 17 (by omega)
  obtain ⟨z17, c17, w17⟩ := int_at (k := .i64) (o := 36) Try.underlying2 (by kernel_rfl) ((hi 17 _ rfl).trans q17)
  replace w17 := wf_i64 w17
  obtain ⟨y18, q18⟩ := hs 18 (by omega)
  obtain ⟨z18, c18, w18⟩ := int_at (k := .i64) (o := 37) Try.underlying2 (by kernel_rfl) ((hi 18 _ rfl).trans q18)
  replace w18 := wf_i64 w18
  obtain ⟨y19, q19⟩ := hs 19 (by omega)
  obtain ⟨z19, c19, w19⟩ := int_at (k := .u32) (o := 38) Try.underlying35 (by kernel_rfl) ((hi 19 _ rfl).trans q19)
  replace w19 := wf_u32 w19
  obtain ⟨n19, rfl⟩ : ∃ n : Nat, z19 = n := ⟨z19.toNat, by omega⟩
  obtain ⟨y20, q20⟩ := hs 20 (by omega)
  obtain ⟨z20, c20, w20⟩ := int_at (k := .i64) (o := 39) Try.underlying2 (by kernel_rfl) ((hi 20 _ rfl).trans q20)
  replace w20 := wf_i64 w20
  obtain ⟨y21, q21⟩ := hs 21 (by omega)
  obtain ⟨z21, g21, c21⟩ := id_at (o := 40) ((hi 21 _ rfl).trans q21)
  refine ⟨⟨z0, z1, z2, z3, z4, n5, z6, z7, n8, z9, z10, z11, z12, n13, n14, z15, z16, z17, z18, n19, z20, z21⟩, ?_, ?_⟩
  · exact ⟨w0, w1, w3, g4, (by show n5 < _; omega), w6, w7, (by show n8 < _; omega), w9, w10, w12, (by show n13 < _; omega), (by show n14 < _; omega), w18, w20, g21⟩
  · refine List.ext_getElem? fun j => ?_
    by_cases h0 : j < 4
    · rcases (show j = 0 ∨ j = 1 ∨ j = 2 ∨ j = 3 by omega) with rfl | rfl | rfl | rfl
      · exact c0
      · exact c1
      · exact c2
      · exact c3
    · by_cases h1 : j < 24
      · have := c4 (j - 4) (by omega)
        rw [show 4 + (j - 4) = j by omega] at this
        rw [this]
        show _ = (([_, _, _, _] : List Value) ++ (idL z4 ++ _))[j]?
        rw [List.getElem?_append_right (by simp; omega), List.getElem?_append_left (by rw [idL_len]; simp; omega)]
        rfl
      · by_cases h2 : j < 40
        · rcases (show j = 24 ∨ j = 25 ∨ j = 26 ∨ j = 27 ∨ j = 28 ∨ j = 29 ∨ j = 30 ∨ j = 31 ∨ j = 32 ∨ j = 33 ∨ j = 34 ∨ j = 35 ∨ j = 36 ∨ j = 37 ∨ j = 38 ∨ j = 39 by omega) with rfl | rfl | rfl | rfl | rfl | rfl | rfl | rfl | rfl | rfl | rfl | rfl | rfl | rfl | rfl | rfl
          · exact c5
          · exact c6
          · exact c7
          · exact c8
          · exact c9
          · exact c10
          · exact c11
          · exact c12
          · exact c13
          · exact c14
          · exact c15
          · exact c16
          · exact c17
          · exact c18
          · exact c19
          · exact c20
        · by_cases h3 : j < 60
          · have := c21 (j - 40) (by omega)
            rw [show 40 + (j - 40) = j by omega] at this
            rw [this]
            show _ = (([_, _, _, _] : List Value) ++ (idL z4 ++ (([_, _, _, _, _, _, _, _, _, _, _, _, _, _, _, _] : List Value) ++ idL z21)))[j]?
            rw [List.getElem?_append_right (by simp; omega), List.getElem?_append_right (by rw [idL_len]; simp; omega), List.getElem?_append_right (by rw [idL_len]; simp; omega)]
            simp only [idL_len, List.length_cons, List.length_nil]
            rw [show j - (0 + 1 + 1 + 1 + 1) - 20 - (0 + 1 + 1 + 1 + 1 + 1 + 1 + 1 + 1 + 1 + 1 + 1 + 1 + 1 + 1 + 1 + 1) = j - 40 by omega]
          · rw [List.getElem?_eq_none (by omega), List.getElem?_eq_none (by rw [globL_len]; omega)]

end

theorem glob_of {H : Type} {enc : TypeId × Value → H} {W : World} {r : Reach} {base : Nat} {v : Value} {d : DataW H} {p : List MemPlace} {held : Bool} (hv : Value.okWide Try.prog W r base 37 v)
    (h : ∃ fuel, DataW.trod enc Try.prog W 0 (fun _ => true) held fuel 37 v.cells.toList = some (d, p)) : ∃ G : Glob, G.Ok ∧ v = .agg (globL G).toArray := by
  obtain ⟨cs, rfl, hs⟩ := okWide_struct Try.underlying37 hv
  obtain ⟨fuel, h⟩ := h
  obtain ⟨G, hG, he⟩ := globCells h
  have he : cs.toList = globL G := he
  exact ⟨G, hG, by rw [← he]⟩

theorem bytes_of {H : Type} {enc : TypeId × Value → H} {W : World} {a : Option Addr} {n c : Nat} {d : DataW H} {p : List MemPlace} {held : Bool}
    (h : ∃ fuel, DataW.trod enc Try.prog W 0 (fun _ => true) held fuel 38 (Value.slice a n c).cells.toList = some (d, p)) :
    ∃ f : Nat → Nat, n ≤ 9223372036854775807 ∧ (0 < n → ∃ b o, a = some ⟨b, o, none⟩ ∧ ∀ j, j < n → W.cell? ⟨b, o + j, none⟩ = some (.int .u8 (f j : Nat))) := by
  obtain ⟨fuel, h⟩ := h
  rcases open_slice1 Try.underlying38 (by kernel_rfl) h with ⟨hcs, _⟩ | ⟨x, l, cc, m, k, V, D, Pl, hcs, _, hl, hm, hmm, _, hx⟩
  · simp [Value.cells] at hcs
    obtain ⟨rfl, rfl, rfl⟩ := hcs
    exact ⟨fun _ => 0, by omega, fun h => absurd h (Nat.lt_irrefl _)⟩
  · simp [Value.cells] at hcs
    obtain ⟨rfl, rfl, rfl⟩ := hcs
    have hmm : m = c := hmm
    subst hmm
    have hm' : m ≤ 9223372036854775807 := hm
    have key : ∀ i, i < m → ∃ z : Nat, W.cell? (x.add i) = some (.int .u8 (z : Nat)) := by
      intro i hi
      obtain ⟨h1, h2⟩ := hx i hi
      obtain ⟨z, h3, _, h4⟩ := DataW.trod_int Try.underlying5 h2
      have hz := wf_u8 h4
      simp only [List.cons.injEq, and_true] at h3
      refine ⟨z.toNat, ?_⟩
      rw [h1, h3, show ((z.toNat : Nat) : Int) = z by omega]
    obtain ⟨Z, hZ⟩ := choose_lt (α := Nat) (p := fun i z => W.cell? (x.add i) = some (.int .u8 (z : Nat))) key
    obtain ⟨b, o, sp⟩ := x
    refine ⟨Z, by omega, fun h0 => ?_⟩
    have hs : sp = none := by simpa [Addr.add] using World.cell?_spot (hZ 0 (by omega))
    subst hs
    exact ⟨b, o, rfl, fun j hj => by have := hZ j (by omega); rwa [Addr.add_lit] at this⟩

end Go.Proofs.Qxb6614450a.W
