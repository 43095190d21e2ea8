import Derived.Test.Qxb6613752aDoorMain
import Derived.Test.Qxb6613752aDoorTie
import Derived.Test.Qxb6613752aDoorCards
import Derived.WalkKit
import Derived.ProofKit
import Derived.OpenShut
import Derived.ShutString
import Derived.ChangeOld
import Derived.Below
import Derived.MakeChecks
import Derived.Lib.LaidTab
import Derived.Lay
import Derived.SevenTiedAt
import Derived.Stop.Joined
import Derived.Deep.Slices
import Derived.Deep.Grids
import Derived.Deep.Matrix
namespace Go.Proofs.Qxb6613752aDoor.fnFlushInTwoBatchesBuildsTheSameTable
open Go.ChangeShapes Go.WideShapes Go.ChangeAt Go.RowKit Go.Deep
open Go.Proofs.Qxb6613752aDoor.W

theorem own : ownKnob Tryd.prog.godebug = none := by kernel_rfl
theorem laidOut : laidOutB Tryd.prog = true := by kernel_rfl

theorem row_mk {w : World} {x : Addr} {n : Nat} {f : Nat → Value} (h : ∀ i, i < n → w.cell? (x.add i) = some (f i)) : Row w (some x) n f := fun h0 => by
  obtain ⟨b, o, sp⟩ := x
  have hs : sp = none := by simpa [Addr.add] using World.cell?_spot (h 0 h0)
  subst hs
  exact ⟨b, o, rfl, fun i hi => by have := h i hi; rwa [Addr.add_lit] at this⟩

theorem wf_u8 {n : Int} (h : (Lit.int .u8 n).wf = true) : 0 ≤ n ∧ n ≤ 255 := by
  have : IntKind.u8.min ≤ n ∧ n ≤ IntKind.u8.max := by simpa [Lit.wf] using h
  exact this
theorem wf_i32 {n : Int} (h : (Lit.int .i32 n).wf = true) : -2147483648 ≤ n ∧ n ≤ 2147483647 := by
  have : IntKind.i32.min ≤ n ∧ n ≤ IntKind.i32.max := by simpa [Lit.wf] using h
  exact this
theorem wf_u64 {n : Int} (h : (Lit.int .u64 n).wf = true) : 0 ≤ n ∧ n ≤ 18446744073709551615 := by
  have : IntKind.u64.min ≤ n ∧ n ≤ IntKind.u64.max := by simpa [Lit.wf] using h
  exact this
theorem wf_i64 {n : Int} (h : (Lit.int .i64 n).wf = true) : -9223372036854775808 ≤ n ∧ n ≤ 9223372036854775807 := by
  have : IntKind.i64.min ≤ n ∧ n ≤ IntKind.i64.max := by simpa [Lit.wf] using h
  exact this

/-- The bytes of a row of numbers. -/
def bytesOf (n : Nat) (zs : List Int) : List UInt8 := (zs.take n).map fun z => UInt8.ofNat z.toNat

theorem sl_mk {w : World} {x : Addr} {n c : Nat} {zs : List Int} (hn : n ≤ zs.length) (h : ∀ i, i < zs.length → w.cell? (x.add i) = some (.int .u8 (zs.getD i 0))) (hw : ∀ z ∈ zs, (Lit.int .u8 z).wf = true) :
    Sl w (.slice (some x) n c) (bytesOf n zs) := by
  have hlen : (bytesOf n zs).length = n := by simp [bytesOf]; omega
  refine ⟨some x, c, by rw [hlen], ?_⟩
  by_cases h0 : n = 0
  · exact .inl (List.eq_nil_of_length_eq_zero (by rw [hlen, h0]))
  · right
    obtain ⟨b, o, e, hc⟩ := row_mk h (by omega : 0 < zs.length)
    refine ⟨b, o, e, fun j hj => ?_⟩
    rw [hlen] at hj
    rw [show w.cell? ⟨b, o + j, none⟩ = some (.int .u8 (zs.getD j 0)) from hc j (by omega)]
    have hm : zs.getD j 0 ∈ zs := by
      rw [List.getD, List.getElem?_eq_getElem (by omega : j < zs.length)]
      exact List.getElem_mem _
    have := wf_u8 (hw _ hm)
    have e1 : (bytesOf n zs)[j]'(by rw [hlen]; exact hj) = UInt8.ofNat (zs.getD j 0).toNat := by
      simp [bytesOf, List.getD, List.getElem?_eq_getElem (by omega : j < zs.length)]
    rw [e1]
    generalize zs.getD j 0 = y at this
    have : ((UInt8.ofNat y.toNat).toNat : Int) = y := by simp; omega
    rw [this]

theorem sl_nil (w : World) : Sl w (.slice none 0 0) [] := ⟨none, 0, rfl, .inl rfl⟩

theorem tab_of_laid {W : World} (h : laidMetH Tryd.prog Rows.fnFlushInTwoBatchesBuildsTheSameTableRow.laid W) : Tab W := by
  rw [MakeChecks.laidMetH_plain _ _ _ (by kernel_rfl)] at h
  have hg : Tryd.prog.globalNamed "math/bits.deBruijn64tab" = some 1 := by kernel_rfl
  obtain ⟨t, e, ht, h1, h2, h3, h4⟩ : ∃ t e, (Tryd.prog.globals[1]?).map (·.type) = some t ∧ Tryd.prog.underlying t = some (.array 64 e) ∧ Tryd.prog.underlying e = some (.int .u8) ∧ Tryd.prog.cellsOf e = 1 ∧ Tryd.prog.cellsOf t = 64 := ⟨83, 5, by kernel_rfl, Tryd.underlying83, Tryd.underlying5, by kernel_rfl, by kernel_rfl⟩
  have ht : Lib.TabIs Tryd.prog W "math/bits.deBruijn64tab" .u8 (Lib.deBruijn64tab.map fun n : Nat => (n : Int)) := Lib.tabIs_of_head hg ht h1 h2 h3 h4 h
  intro j hj
  rw [ht.cell hg j (by simpa using hj)]
  simp [List.getD, hj]

theorem ints_of {k : IntKind} {H : Type} {enc : TypeId × Value → H} {W : World} {t e : TypeId} {a : Option Addr} {n c : Nat} {d : DataW H} {p : List MemPlace} {held : Bool} (ht : Tryd.prog.underlying t = some (.slice e)) (he : Tryd.prog.underlying e = some (.int k)) (ce : Tryd.prog.cellsOf e = 1)
    (h : ∃ fuel, DataW.trod enc Tryd.prog W 0 (fun _ => true) held fuel t (Value.slice a n c).cells.toList = some (d, p)) :
    ∃ zs : List Int, n ≤ 9223372036854775807 ∧ n ≤ zs.length ∧ (a = none → n = 0 ∧ c = 0 ∧ zs = []) ∧ (∀ z ∈ zs, (Lit.int k z).wf = true) ∧ ∀ x, a = some x → ∀ i, i < zs.length → W.cell? (x.add i) = some (.int k (zs.getD i 0)) := by
  obtain ⟨fuel, hf⟩ := h
  rcases open_ints ht he ce hf with ⟨hcs, _⟩ | ⟨x, l, c, zs, hcs, _, hl, hm, hz, _, hcell, hwz⟩
  · simp [Value.cells] at hcs
    obtain ⟨rfl, rfl, rfl⟩ := hcs
    exact ⟨[], by omega, Nat.le_refl _, fun _ => ⟨rfl, rfl, rfl⟩, fun z hz => absurd hz (by simp), fun x h => by simp at h⟩
  · simp [Value.cells] at hcs
    obtain ⟨rfl, rfl, rfl⟩ := hcs
    have hz' : zs.length = c := by simpa using hz
    have hm' : c ≤ 9223372036854775807 := hm
    refine ⟨zs, by omega, by omega, fun h => by simp at h, hwz, fun y hy => ?_⟩
    simp at hy
    subst hy
    exact hcell

theorem names_of {H : Type} {enc : TypeId × Value → H} {W : World} {a : Option Addr} {n c : Nat} {d : DataW H} {p : List MemPlace} {held : Bool}
    (h : ∃ fuel, DataW.trod enc Tryd.prog W 0 (fun _ => true) held fuel 32 (Value.slice a n c).cells.toList = some (d, p)) :
    n ≤ 9223372036854775807 ∧ (a = none → n = 0 ∧ c = 0) ∧ ∃ A Ln C l, Nms W a n A Ln C l ∧ ∀ i, i < n → A i = none → Ln i = 0 ∧ C i = 0 := by
  obtain ⟨fuel, hf⟩ := h
  rcases open_int_rows Tryd.underlying32 Tryd.underlying22 Tryd.underlying5 (by kernel_rfl) (by kernel_rfl) hf with ⟨hcs, _⟩ | ⟨x, l, c, A, L, C, Z, hcs, _, hl, hm, _, hr⟩
  · simp [Value.cells] at hcs
    obtain ⟨rfl, rfl, rfl⟩ := hcs
    exact ⟨by omega, fun _ => ⟨rfl, rfl⟩, fun _ => none, fun _ => 0, fun _ => 0, fun _ => [], ⟨fun h => absurd h (Nat.lt_irrefl _), fun i hi => absurd hi (Nat.not_lt_zero _), fun i hi => absurd hi (Nat.not_lt_zero _)⟩, fun i hi => absurd hi (Nat.not_lt_zero _)⟩
  · simp [Value.cells] at hcs
    obtain ⟨rfl, rfl, rfl⟩ := hcs
    have hm' : c ≤ 9223372036854775807 := hm
    refine ⟨by omega, fun h => by simp at h, A, L, C, fun i => bytesOf (L i) (Z i), ⟨row_mk fun i hi => (hr i (by omega)).1, fun i hi => ?_, fun i hi => ?_⟩, fun i hi hA => ?_⟩
    · obtain ⟨_, h1, h2, h3, h4, h5, h6⟩ := hr i (by omega)
      cases hA : A i with
      | none =>
        have := h5 hA
        have e : L i = 0 := by omega
        rw [e, this]
        exact sl_nil W
      | some y => exact sl_mk (by omega) (fun j hj => (h6 y hA).2 j (by omega)) h4
    · obtain ⟨_, h1, h2, _⟩ := hr i (by omega)
      have h2' : C i ≤ 9223372036854775807 := h2
      omega
    · obtain ⟨_, h1, h2, h3, h4, h5, h6⟩ := hr i (by omega)
      have := h5 hA
      exact ⟨by omega, this⟩

theorem bools_of {H : Type} {enc : TypeId × Value → H} {W : World} {a : Option Addr} {n c : Nat} {d : DataW H} {p : List MemPlace} {held : Bool}
    (h : ∃ fuel, DataW.trod enc Tryd.prog W 0 (fun _ => true) held fuel 34 (Value.slice a n c).cells.toList = some (d, p)) :
    n ≤ 9223372036854775807 ∧ ∃ mk : Nat → Bool, Row W a n (fun i => .bool (mk i)) := by
  obtain ⟨fuel, hf⟩ := h
  rcases open_bools Tryd.underlying34 Tryd.underlying4 (by kernel_rfl) hf with ⟨hcs, _⟩ | ⟨x, l, c, B, hcs, _, hl, hm, _, hr⟩
  · simp [Value.cells] at hcs
    obtain ⟨rfl, rfl, rfl⟩ := hcs
    exact ⟨by omega, fun _ => true, fun h => absurd h (Nat.lt_irrefl _)⟩
  · simp [Value.cells] at hcs
    obtain ⟨rfl, rfl, rfl⟩ := hcs
    have hm' : c ≤ 9223372036854775807 := hm
    exact ⟨by omega, B, row_mk fun i hi => hr i (by omega)⟩

theorem row_ints {k : IntKind} {W : World} {a : Option Addr} {n : Nat} {zs : List Int} (hn : n ≤ zs.length) (h0 : a = none → n = 0) (h : ∀ x, a = some x → ∀ i, i < zs.length → W.cell? (x.add i) = some (.int k (zs.getD i 0))) :
    Row W a n (fun i => .int k (zs.getD i 0)) := by
  cases a with
  | none => rw [h0 rfl]; exact fun h => absurd h (Nat.lt_irrefl _)
  | some x => exact row_mk fun i hi => h x rfl i (by omega)

theorem getD_wf {k : IntKind} {zs : List Int} (h : ∀ z ∈ zs, (Lit.int k z).wf = true) {i : Nat} (hi : i < zs.length) : (Lit.int k (zs.getD i 0)).wf = true := by
  rw [List.getD, List.getElem?_eq_getElem hi]
  exact h _ (List.getElem_mem _)

set_option maxRecDepth 100000 in
theorem lifted (os : Os) (started : os.Started) (H : Type) (enc : TypeId × Value → H) :
    ReturnsInHanded {} Tryd.checked os 4 .any (fun w args => (Rows.fnFlushInTwoBatchesBuildsTheSameTableSpec.pre enc Tryd.prog Tryd.f4 Rows.fnFlushInTwoBatchesBuildsTheSameTableRow.domain false w args ∧ laidMetH Tryd.prog Rows.fnFlushInTwoBatchesBuildsTheSameTableRow.laid w) ∧ sizedMet enc Tryd.prog Tryd.f4 (OpenSpec.ofChange Rows.fnFlushInTwoBatchesBuildsTheSameTableSpec) false w args)
      (Rows.fnFlushInTwoBatchesBuildsTheSameTableSpec.post enc Tryd.prog Tryd.f4 false true false false) := by
  refine returnsInHanded_of_change_and (C := Tryd.checked) (X := fun w _ => laidMetH Tryd.prog Rows.fnFlushInTwoBatchesBuildsTheSameTableRow.laid w) (fun _ _ _ hh h => h.of_heap hh) own started (by kernel_rfl) Tryd.func4
    (ChangeSpec.witness_shaped (enc := enc) (C := Tryd.checked) (os := os) (X := fun w _ => laidMetH Tryd.prog Rows.fnFlushInTwoBatchesBuildsTheSameTableRow.laid w) false (World.laidAll Tryd.prog os Rows.fnFlushInTwoBatchesBuildsTheSameTableRow.laid) #[.slice none 0 0, .slice none 0 0, .slice none 0 0, .slice none 0 0, .slice none 0 0, .int .i64 0, .int .i64 0] 8 (World.laidAll_os _ _ _)
      (World.shaped_of_ZipB (by kernel_rfl) (by kernel_rfl)) (by kernel_rfl) (by kernel_rfl) (by kernel_rfl)
      (by rw [MakeChecks.laidMetH_plain _ _ _ (by kernel_rfl)]; exact laidMet_laidAll _ (by kernel_rfl) (by kernel_rfl))) ?_
  intro W base args ds gs before hval0 hW hc _ hL _
  have hval : ∀ (j : Nat) t v, Tryd.f4.params[j]? = some t → args[j]? = some v → Value.okWide Tryd.prog W .any base t v := hval0
  have hW' := hW
  obtain ⟨p, q, hA0, hV, rfl, hfz, hnd⟩ := hW
  have hA : DataW.TrodAll enc Tryd.prog W 0 (fun _ => true) true Tryd.f4.params.toList args.toList ds p := hA0
  rw [Tryd.params4] at hA hval
  obtain ⟨v0, vs0, d0, ds0, p0, q0, hargs, rfl, rfl, h0, r0⟩ := trodAll_cons hA
  obtain ⟨v1, vs1, d1, ds1, p1, q1, rfl, rfl, rfl, h1, r1⟩ := trodAll_cons r0
  obtain ⟨v2, vs2, d2, ds2, p2, q2, rfl, rfl, rfl, h2, r2⟩ := trodAll_cons r1
  obtain ⟨v3, vs3, d3, ds3, p3, q3, rfl, rfl, rfl, h3, r3⟩ := trodAll_cons r2
  obtain ⟨v4, vs4, d4, ds4, p4, q4, rfl, rfl, rfl, h4, r4⟩ := trodAll_cons r3
  obtain ⟨v5, vs5, d5, ds5, p5, q5, rfl, rfl, rfl, h5, r5⟩ := trodAll_cons r4
  obtain ⟨v6, vs6, d6, ds6, p6, q6, rfl, rfl, rfl, h6, r6⟩ := trodAll_cons r5
  obtain ⟨rfl, rfl, rfl⟩ := trodAll_nil r6
  obtain rfl : args = #[v0, v1, v2, v3, v4, v5, v6] := by cases args; simp_all
  obtain ⟨rfl, rfl⟩ := trodVars_none hV
  obtain ⟨a0, len0, cap0, rfl⟩ := okWide_slice Tryd.underlying22 (hval 0 22 v0 rfl rfl)
  obtain ⟨a1, len1, cap1, rfl⟩ := okWide_slice Tryd.underlying32 (hval 1 32 v1 rfl rfl)
  obtain ⟨a2, len2, cap2, rfl⟩ := okWide_slice Tryd.underlying33 (hval 2 33 v2 rfl rfl)
  obtain ⟨a3, len3, cap3, rfl⟩ := okWide_slice Tryd.underlying34 (hval 3 34 v3 rfl rfl)
  obtain ⟨a4, len4, cap4, rfl⟩ := okWide_slice Tryd.underlying35 (hval 4 35 v4 rfl rfl)
  have lt0 : ∀ x ∈ p0, x.block < W.heap.size := by obtain ⟨m, hm⟩ := h0; exact DataW.trod_lt m _ _ _ hm
  have lt1 : ∀ x ∈ p1, x.block < W.heap.size := by obtain ⟨m, hm⟩ := h1; exact DataW.trod_lt m _ _ _ hm
  have lt2 : ∀ x ∈ p2, x.block < W.heap.size := by obtain ⟨m, hm⟩ := h2; exact DataW.trod_lt m _ _ _ hm
  have lt3 : ∀ x ∈ p3, x.block < W.heap.size := by obtain ⟨m, hm⟩ := h3; exact DataW.trod_lt m _ _ _ hm
  have lt4 : ∀ x ∈ p4, x.block < W.heap.size := by obtain ⟨m, hm⟩ := h4; exact DataW.trod_lt m _ _ _ hm
  obtain ⟨N, rfl, rfl, rfl, w5⟩ := open_int Tryd.underlying3 (hval 5 3 v5 rfl rfl) h5
  obtain ⟨ct, rfl, rfl, rfl, w6⟩ := open_int Tryd.underlying3 (hval 6 3 v6 rfl rfl) h6
  obtain ⟨z0, m0, x0, y0, u0, c0⟩ := ints_of (k := .u8) Tryd.underlying22 Tryd.underlying5 (by kernel_rfl) h0
  obtain ⟨m1, y1, A, Ln, C, l, hnm, hnmi⟩ := names_of h1
  obtain ⟨z2, m2, x2, y2, u2, c2⟩ := ints_of (k := .i32) Tryd.underlying33 Tryd.underlying21 (by kernel_rfl) h2
  obtain ⟨m3, mk, hmk⟩ := bools_of h3
  obtain ⟨z4, m4, x4, y4, u4, c4⟩ := ints_of (k := .u64) Tryd.underlying35 Tryd.underlying43 (by kernel_rfl) h4
  have hS : Sl W (.slice a0 len0 cap0) (bytesOf len0 z0) := by
    cases a0 with
    | none =>
      obtain ⟨rfl, rfl, rfl⟩ := y0 rfl
      exact sl_nil W
    | some x => exact sl_mk x0 (c0 x rfl) u0
  have came : Came W a0 a1 a2 a3 a4 len0 cap0 len1 cap1 len2 len3 len4 A Ln C l (bytesOf len0 z0) (fun i => z2.getD i 0) mk (fun i => z4.getD i 0) :=
    { tab := tab_of_laid hL
      src := hS
      z0 := fun e => ⟨(y0 e).1, (y0 e).2.1⟩
      nm := hnm
      nm0 := y1
      nmi := hnmi
      ops := row_ints x2 (fun e => (y2 e).1) c2
      opb := fun i hi => wf_i32 (getD_wf u2 (by omega))
      mks := hmk
      hs := row_ints x4 (fun e => (y4 e).1) c4
      hb := fun i hi => by have := wf_u64 (getD_wf u4 (by omega : i < z4.length)); omega }
  clear hA0 hval0
  refine (main_calls a0 a1 a2 a3 a4 len0 cap0 len1 cap1 len2 cap2 len3 cap3 len4 cap4 N ct A Ln C l _ _ mk _ W m0 m1 m2 m3 m4 (wf_i64 w5) (wf_i64 w6) came).mono fun e W' ⟨he, bel⟩ => ?_
  subst he
  exact ⟨_, rfl, _, _, _, [], _, [], hW', trodAll_mk1 (shut_bool Tryd.underlying4 _), (trodAll_cons_mk (Below.trod laidOut (by kernel_rfl) (of_decide_eq_true (by kernel_rfl)) h0 bel lt0)
    (trodAll_cons_mk (Below.trod laidOut (by kernel_rfl) (of_decide_eq_true (by kernel_rfl)) h1 bel lt1) (trodAll_cons_mk (Below.trod laidOut (by kernel_rfl) (of_decide_eq_true (by kernel_rfl)) h2 bel lt2)
    (trodAll_cons_mk (Below.trod laidOut (by kernel_rfl) (of_decide_eq_true (by kernel_rfl)) h3 bel lt3) (trodAll_cons_mk (Below.trod laidOut (by kernel_rfl) (of_decide_eq_true (by kernel_rfl)) h4 bel lt4)
    (trodAll_cons_mk (shut_int Tryd.underlying3 w5) (trodAll_cons_mk (shut_int Tryd.underlying3 w6) trodAll_mk0))))))), rfl, bel.frame _, fun h => by cases h⟩

theorem over : Rows.FnFlushInTwoBatchesBuildsTheSameTableSaid :=
  OpenClaim.holds_of_wide 4 Tryd.f4 rfl rfl rfl rfl rfl rfl rfl ⟨rfl, rfl, rfl, rfl, rfl⟩ rfl rfl rfl rfl rfl (by kernel_rfl) Tryd.func4 (by kernel_rfl)
    (of_decide_eq_true (by kernel_rfl)) (by unfold Func.isWrapper; first | (rw [if_pos (by decide +kernel)]; kernel_rfl) | (rw [if_neg (by decide +kernel)]; exact ⟨rfl, rfl⟩))
    (fun os started H enc _ => lifted os started H enc)

/-- THE CARD: the row with its listed variable tied to the program's text. -/
theorem proved : Rows.FnFlushInTwoBatchesBuildsTheSameTableCardSaid :=
  Claim7.holds_tied_plain_at .later [] [.data] true (true, "1ab9978dc745fcff0fc5ed810255a80d325718df534077ace7d1d2f13882513b") false over (fun _ h => by cases h) (by kernel_rfl) (fun _ h => by cases h) fnFlushInTwoBatchesBuildsTheSameTable_row_tie rfl ⟨rfl, rfl⟩ (by kernel_rfl) rfl
    (fun f fn hf hfn => by
      obtain rfl : f = 4 := Option.some.inj ((show Tryd.prog.funcNamed "example.com/sextant/sextant/zzlaws_internal_jsondoc_b1.FnFlushInTwoBatchesBuildsTheSameTable" = some 4 by kernel_rfl).symm.trans hf) |>.symm
      obtain rfl : fn = Tryd.f4 := (Option.some.inj (Tryd.func4.symm.trans hfn)).symm
      exact ⟨by kernel_rfl, fun j t ht => by
        rw [Tryd.params4] at ht
        have hm : t ∈ [22, 32, 33, 34, 35, 3, 3] := by simpa using Array.mem_of_getElem? ht
        have hall : ([22, 32, 33, 34, 35, 3, 3].all fun u => !Tryd.prog.wantsStandIn u) = true := by kernel_rfl
        exact (show Tryd.prog.wantsStandIn t = false by simpa using List.all_eq_true.1 hall t hm)⟩)
    (by kernel_rfl)
#print axioms proved
end Go.Proofs.Qxb6613752aDoor.fnFlushInTwoBatchesBuildsTheSameTable
