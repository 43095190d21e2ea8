import Derived.Test.Qxb6614450aFive
import Derived.ArgAppend
namespace Go.Proofs.Qxb6614450a.W
open Go.RowKit

/-- How many of the first p lie below x. -/
def cnt (X : Nat → Nat) (x : Nat) : Nat → Nat
  | 0 => 0
  | p + 1 => cnt X x p + (if X p < x then 1 else 0)

theorem cnt_le (X : Nat → Nat) (x : Nat) : ∀ p, cnt X x p ≤ p
  | 0 => Nat.le_refl _
  | p + 1 => by
    have := cnt_le X x p
    simp only [cnt]
    split <;> omega

theorem cnt_iff {X : Nat → Nat} {n : Nat} (hs : Sorted X n) (x : Nat) : ∀ p, p ≤ n → ∀ i, i < p → (X i < x ↔ i < cnt X x p)
  | 0, _, i, hi => absurd hi (Nat.not_lt_zero _)
  | p + 1, hp, i, hi => by
    have ih := cnt_iff hs x p (by omega)
    have hle := cnt_le X x p
    simp only [cnt]
    by_cases h : X p < x
    · simp only [h, if_true]
      have : X i ≤ X p := hs i p (by omega) (by omega)
      have e : cnt X x p = p := by
        by_cases h0 : p = 0
        · omega
        · have h1 : X (p - 1) ≤ X p := hs (p - 1) p (by omega) (by omega)
          have := (ih (p - 1) (by omega)).1 (by omega)
          omega
      constructor <;> omega
    · simp only [h, if_false, Nat.add_zero]
      by_cases e : i = p
      · subst e
        constructor
        · intro h'; exact absurd h' h
        · intro h'; omega
      · exact ih i (by omega)

/-- The ids with one more at place p. -/
def ins (F : Nat → Nat → Nat) (g : Nat → Nat) (p i : Nat) : Nat → Nat := if i < p then F i else if i = p then g else F (i - 1)

theorem ins_lt {F : Nat → Nat → Nat} {g : Nat → Nat} {p i : Nat} (h : i < p) : ins F g p i = F i := by simp [ins, h]
theorem ins_eq (F : Nat → Nat → Nat) (g : Nat → Nat) (p : Nat) : ins F g p p = g := by simp [ins]
theorem ins_gt {F : Nat → Nat → Nat} {g : Nat → Nat} {p i : Nat} (h : p ≤ i) : ins F g p (i + 1) = F i := by
  have h1 : ¬ i + 1 < p := by omega
  have h2 : ¬ i + 1 = p := by omega
  simp [ins, h1, h2]

theorem ins_small {F : Nat → Nat → Nat} {g : Nat → Nat} (hF : ∀ i j, F i j < 256) (hg : ∀ j, g j < 256) (p i j : Nat) : ins F g p i j < 256 := by
  unfold ins
  split
  · exact hF _ _
  · split
    · exact hg _
    · exact hF _ _

theorem ins_sorted {F : Nat → Nat → Nat} {g : Nat → Nat} {n : Nat} (hs : Sorted (num F) n) : Sorted (num (ins F g (cnt (num F) (val g 20) n))) (n + 1) := by
  have hi := cnt_iff hs (val g 20) n (Nat.le_refl _)
  have hle := cnt_le (num F) (val g 20) n
  generalize cnt (num F) (val g 20) n = p at *
  refine sorted_of_steps fun i hn => ?_
  by_cases h1 : i + 1 < p
  · show val (ins F g p i) 20 ≤ val (ins F g p (i + 1)) 20
    rw [ins_lt h1, ins_lt (by omega : i < p)]
    exact hs i (i + 1) (by omega) (by omega)
  · by_cases h2 : i + 1 = p
    · show val (ins F g p i) 20 ≤ val (ins F g p (i + 1)) 20
      rw [h2, ins_eq, ins_lt (by omega : i < p)]
      have := (hi i (by omega)).2 (by omega)
      exact Nat.le_of_lt this
    · by_cases h3 : i = p
      · show val (ins F g p i) 20 ≤ val (ins F g p (i + 1)) 20
        rw [ins_gt (by omega : p ≤ i), h3, ins_eq]
        have : ¬ num F p < val g 20 := fun h => by have := (hi p (by omega)).1 h; omega
        have e : num F p = val (F p) 20 := rfl
        omega
      · show val (ins F g p i) 20 ≤ val (ins F g p (i + 1)) 20
        obtain ⟨k, rfl⟩ : ∃ k, i = k + 1 := ⟨i - 1, by omega⟩
        rw [ins_gt (by omega : p ≤ k + 1), ins_gt (by omega : p ≤ k)]
        exact hs k (k + 1) (by omega) (by omega)

theorem ins_has (F : Nat → Nat → Nat) (g : Nat → Nat) (p n x : Nat) (hp : p ≤ n) : has (num (ins F g p)) (n + 1) x = (has (num F) n x || decide (x = val g 20)) := by
  rw [Bool.eq_iff_iff, Bool.or_eq_true, has_iff, has_iff, decide_eq_true_eq]
  constructor
  · rintro ⟨i, hi, h⟩
    have h : val (ins F g p i) 20 = x := h
    by_cases h1 : i < p
    · rw [ins_lt h1] at h
      exact .inl ⟨i, by omega, h⟩
    · by_cases h2 : i = p
      · rw [h2, ins_eq] at h
        exact .inr h.symm
      · obtain ⟨k, rfl⟩ : ∃ k, i = k + 1 := ⟨i - 1, by omega⟩
        rw [ins_gt (by omega : p ≤ k)] at h
        exact .inl ⟨k, by omega, h⟩
  · rintro (⟨i, hi, h⟩ | h)
    · by_cases h1 : i < p
      · exact ⟨i, by omega, by show val (ins F g p i) 20 = x; rw [ins_lt h1]; exact h⟩
      · exact ⟨i + 1, by omega, by show val (ins F g p (i + 1)) 20 = x; rw [ins_gt (by omega : p ≤ i)]; exact h⟩
    · exact ⟨p, by omega, by show val (ins F g p p) 20 = x; rw [ins_eq]; exact h.symm⟩

theorem before_has {F : Nat → Nat → Nat} {n x : Nat} (hs : Sorted (num F) n) : has (num F) n x = (decide (cnt (num F) x n < n) && decide (num F (cnt (num F) x n) = x)) := by
  have hi := cnt_iff hs x n (Nat.le_refl _)
  generalize cnt (num F) x n = p at *
  rw [Bool.eq_iff_iff, Bool.and_eq_true, has_iff, decide_eq_true_eq, decide_eq_true_eq]
  constructor
  · rintro ⟨i, hn, h⟩
    have h1 : p ≤ i := by
      apply Nat.le_of_not_lt
      intro h'
      have := (hi i hn).2 h'
      omega
    have h2 : ¬ num F p < x := fun h => by have := (hi p (by omega)).1 h; omega
    have h3 := hs p i h1 hn
    exact ⟨by omega, by omega⟩
  · rintro ⟨h1, h2⟩
    exact ⟨p, h1, h2⟩

attribute [irreducible] cnt ins

/-! ### The grown row -/
theorem info25 : (Try.prog.info? 25).map (fun i => (i.zero, i.size, i.bytes)) = some (some (.agg (idL fun _ => 0).toArray), 20, 20) := by kernel_rfl

/-- The cells of n new ids. -/
def noIds (n : Nat) : Array Value := madeCells (idL fun _ => 0).toArray (n * 20)

theorem makeIds (m : Nat) (hn : m ≤ 65537) (w : World) :
    (Instr.makeSlice 24 (.int .i64 0) (.int .i64 (m : Int))).run Try.prog w = .ok (.slice (some ⟨w.heap.size, 0, none⟩) 0 m) (w.alloc (.cells (noIds m) 25)) := by
  obtain ⟨i, hi, hzz⟩ := Option.map_eq_some_iff.1 info25
  simp only [Prod.mk.injEq] at hzz
  obtain ⟨hz, hs, hb⟩ := hzz
  have hr := run_make (P := Try.prog) w 24 25 i _ Try.underlying24 hi hz .i64 .i64 0 m (by omega) (by omega) (by rw [hb]; omega) (by omega)
  rw [hs] at hr
  simpa [noIds, Value.cells] using hr

theorem noIds_get (n j : Nat) (hj : j < n * 20) : ((noIds n)[j]?).isSome = true := by
  have : (idL fun _ => 0).toArray.size = 20 := by simp [idL_len]
  simp [noIds, madeCells, this, hj]

/-- The row while it grows: p of at most m ids lie in block H. -/
structure Grows (w wr : World) (H m p : Nat) (G : Nat → Nat → Nat) : Prop where
  bel : Below w.heap.size w wr
  new : w.heap.size ≤ H ∧ H < wr.heap.size
  ids : ∀ i, i < p → wr.rangeAt H (i * 20) (idL (G i))
  there : wr.there H 0 (m * 20)

theorem Grows.first (w : World) (m : Nat) (G : Nat → Nat → Nat) : Grows w (w.alloc (.cells (noIds m) 25)) w.heap.size m 0 G := by
  have hc : ∀ j, (w.alloc (.cells (noIds m) 25)).cell? ⟨w.heap.size, j, none⟩ = (noIds m)[j]? := fun j => World.cell?_alloc_new w _ _ j
  refine ⟨below_alloc _ _, ⟨Nat.le_refl _, by simp⟩, fun i hi => absurd hi (Nat.not_lt_zero _), fun j hj => ⟨?_, ?_⟩⟩
  · rw [hc, Nat.zero_add]
    exact noIds_get m j hj
  · exact World.frozen?_alloc_at _ _ _ _ rfl

theorem size_setCells (b : Nat) : ∀ (vs : List Value) (o : Nat) (w : World), (w.setCells b o vs).heap.size = w.heap.size
  | [], _, _ => rfl
  | v :: r, o, w => by
    show ((w.setCell ⟨b, o, none⟩ v).setCells b (o + 1) r).heap.size = _
    rw [size_setCells b r (o + 1) _]
    simp

theorem Grows.next {w wr : World} {H m p : Nat} {G : Nat → Nat → Nat} (h : Grows w wr H m p G) (hp : p < m) : Grows w ((wr.alloc (.cells (idL (G p)).toArray 25)).setCells H (0 + p * 20) (idL (G p))) H m (p + 1) G := by
  have ht : (wr.alloc (.cells (idL (G p)).toArray 25)).there H 0 (m * 20) := World.there_alloc h.there _
  rw [Nat.zero_add]
  refine ⟨below_setCells H h.new.1 _ _ _ (h.bel.trans ((below_alloc wr _).mono h.bel.size)), ⟨h.new.1, ?_⟩, fun i hi => ?_, World.there_setCells ht _ _ _⟩
  · have := h.new.2
    have e : ((wr.alloc (.cells (idL (G p)).toArray 25)).setCells H (p * 20) (idL (G p))).heap.size = (wr.alloc (.cells (idL (G p)).toArray 25)).heap.size := size_setCells _ _ _ _
    rw [e]
    simp
    omega
  · by_cases e : i = p
    · rw [e]
      exact World.rangeAt_setCells_same _ _ _ _ (there_mid ht (by rw [idL_len]; omega))
    · exact World.rangeAt_setCells_apart (rangeAt_below (h.ids i (by omega)) (below_alloc wr _)) _ _ _ (.inr (.inl (by rw [idL_len]; omega)))

theorem Grows.all {w wr : World} {H m p : Nat} {G : Nat → Nat → Nat} (h : Grows w wr H m p G) : Ids wr (some ⟨H, 0, none⟩) p G := fun _ =>
  ⟨H, 0, rfl, fun i hi j hj => by
    rw [Nat.zero_add]
    exact h.ids i hi j _ (idL_get _ _ hj)⟩

theorem run_build1 (f : Nat → Nat) (w : World) : (Instr.buildSlice 24 1 #[(0, .agg (idL f).toArray)]).run Try.prog w = .ok (.slice (some ⟨w.heap.size, 0, none⟩) 1 1) (w.alloc (.cells (idL f).toArray 25)) := by
  obtain ⟨i, hi, hzz⟩ := Option.map_eq_some_iff.1 info25
  simp only [Prod.mk.injEq] at hzz
  obtain ⟨hz, hs, hb⟩ := hzz
  have hfill : Instr.fill (fun i => some (i * 20, 20)) ((Array.range (1 * 20)).map ((idL fun _ => 0).toArray[· % (idL fun _ => 0).toArray.size]!)) [(0, .agg (idL f).toArray)] = some (idL f).toArray := by kernel_rfl
  simp [Instr.buildSlice, run_underlying Try.underlying24, sizeOf, typeInfo, hi, hs, zeroValue, hz, Value.cells] at hfill ⊢
  simp [hfill, newRow]

theorem wpList_build1 {w : World} {ops : Array Oper} {rest : List Oper} {o : Oper} {a : Act} {Q : Exit → Act → World → Prop} (hg : o.guard = none) (x : Operand) (hop : o.op = .buildSlice 24 1 #[(0, x)]) (f : Nat → Nat) (hx : a.eval x = .agg (idL f).toArray)
    (k : wpList Try.prog ops Q rest (a.put o.dst (.slice (some ⟨w.heap.size, 0, none⟩) 1 1)) (w.alloc (.cells (idL f).toArray 25))) : wpList Try.prog ops Q (o :: rest) a w := by
  refine wpList_plain hg fun K hK => ?_
  have hrun := run_build1 f w
  unfold Oper.wp
  simp [execOp, hop, hx, hrun, Result.andThen]
  exact hK _ _ k

theorem idL_cell (f : Nat → Nat) : ∀ u ∈ idL f, u.oneCell' = true := fun u hu => by
  simp only [idL, List.mem_map, List.mem_range] at hu
  obtain ⟨i, _, rfl⟩ := hu
  rfl

theorem run_append_id (w : World) (ty : TypeId) (H p m b : Nat) (f : Nat → Nat) (hn : w.rangeAt b 0 (idL f)) (hp : p < m) (ht : w.there H 0 (m * 20)) :
    (Builtin.append_ #[24, 24] ty #[.slice (some ⟨H, 0, none⟩) p m, .slice (some ⟨b, 0, none⟩) 1 1]).run Try.prog w = .ok (.slice (some ⟨H, 0, none⟩) (p + 1) m) (w.setCells H (0 + p * 20) (idL f)) := by
  obtain ⟨i, hi, hzz⟩ := Option.map_eq_some_iff.1 info25
  simp only [Prod.mk.injEq] at hzz
  obtain ⟨hz, hsz, hb⟩ := hzz
  have hl : (idL f).length = 1 * i.size := by rw [idL_len, hsz]
  have hc : ∀ j u, (idL f)[j]? = some u → w.cell? ((⟨b, 0, none⟩ : Addr).add j) = some u := fun j u hj => by rw [Addr.add_mid]; exact hn j u hj
  have ht' : ∀ j, j < (idL f).length → (w.cell? ⟨H, 0 + p * i.size + j, none⟩).isSome = true ∧ w.frozen? ⟨H, 0 + p * i.size + j, none⟩ = false := fun j hj => by
    rw [idL_len] at hj
    rw [hsz]
    exact there_mid ht (o := 0 + p * 20) (n := 20) (by omega) j hj
  have hrun := run_append_room_cells (P := Try.prog) w 24 ty 25 i Try.underlying24 hi H 0 p m ⟨b, 0, none⟩ 1 1 (idL f) hl hc (idL_cell f) (by omega) (fun j hj => (ht' j hj).1) (fun j hj => (ht' j hj).2)
  rw [hsz] at hrun
  exact hrun

theorem wpList_append_room {P : Program} {w : World} {ops : Array Oper} {rest : List Oper} {o : Oper} {a : Act} {Q : Exit → Act → World → Prop} (hg : o.guard = none) (s x : Operand) (t : TypeId) (hop : o.op = Op.call { callee := Callee.builtin Builtin.append, args := #[s, x], argTypes := #[t, t] })
    (v1 v2 v3 : Value) (w3 : World) (hs : a.eval s = v1) (hx : a.eval x = v2) (hrun : (Builtin.append_ #[t, t] o.type #[v1, v2]).run P w = .ok v3 w3)
    (k : wpList P ops Q rest (a.put o.dst v3) w3) : wpList P ops Q (o :: rest) a w := by
  refine wpList_plain hg fun K hK => ?_
  unfold Oper.wp
  simp [execOp, hop, resolve, invoke, builtin, hs, hx, hrun, Result.andThen]
  exact hK _ _ k

theorem wpList_append_id {w : World} {ops : Array Oper} {rest : List Oper} {o : Oper} {a : Act} {Q : Exit → Act → World → Prop} (hg : o.guard = none) (s x : Operand) (hop : o.op = Op.call { callee := Callee.builtin Builtin.append, args := #[s, x], argTypes := #[24, 24] })
    (H p m b : Nat) (f : Nat → Nat) (hs : a.eval s = .slice (some ⟨H, 0, none⟩) p m) (hx : a.eval x = .slice (some ⟨b, 0, none⟩) 1 1) (hn : w.rangeAt b 0 (idL f)) (hp : p < m) (ht : w.there H 0 (m * 20))
    (k : wpList Try.prog ops Q rest (a.put o.dst (.slice (some ⟨H, 0, none⟩) (p + 1) m)) (w.setCells H (0 + p * 20) (idL f))) : wpList Try.prog ops Q (o :: rest) a w :=
  wpList_append_room hg s x 24 hop _ _ _ _ hs hx (run_append_id w _ H p m b f hn hp ht) k

set_option maxHeartbeats 1000000 in
set_option maxRecDepth 100000 in
/-- The bound on the length, before the scan: true says that the ids are few. -/
theorem zzBytes14_calls (a : Option Addr) (n c : Nat) (g h : Nat → Nat) (w : World) (hn : n ≤ 9223372036854775807) :
    Calls Try.prog 14 #[.slice a n c, .agg (idL g).toArray, .agg (idL h).toArray] w fun e w' => ((e = .returned (.bool true) ∧ n ≤ 1048576) ∨ e = .returned (.bool false)) ∧ Below w.heap.size w w' := by
  have B1 : Hid (Below w.heap.size w ((w.alloc (.cells (idL g).toArray 25)).alloc (.cells (idL h).toArray 25))) := bthen (below_alloc _ _) (below_alloc _ _)
  by_cases h1 : 1048576 < n
  · have t1 : decide ((1048576 : Int) < (n : Int)) = true := by simp; omega
    go_enter Try.func14, Try.ntmps14
    go_wp2_with fail
    go_ret
    exact ⟨.inr rfl, B1.out⟩
  · have t1 : decide ((1048576 : Int) < (n : Int)) = false := by simp; omega
    have hn2 : n ≤ 1048576 := by omega
    clear hn
    go_enter Try.func14, Try.ntmps14
    go_wp2_with fail
    generalize (w.alloc (.cells (idL g).toArray 25)).alloc (.cells (idL h).toArray 25) = W1 at *
    go_loopg [7, 8] n (fun gk s i wr => ∃ p t : Nat, p ≤ n ∧ t ≤ 1048576 ∧ s = .int .i64 t ∧ i = .int .i64 p ∧ Hid (p + gk = n) ∧ Hid (wr = W1))
    case atStart => exact ⟨0, n, Nat.zero_le _, by omega, rfl, rfl, by show _ = _; omega, rfl⟩
    case round =>
      obtain ⟨p, t, hp, ht, rfl, rfl, HG, HW⟩ := hrel
      by_cases hlt : p < n
      · by_cases hbig : 1048576 < t + 20
        · have t2 : decide ((1048576 : Int) < (t : Int) + 20) = true := by simp; omega
          clear hbig h1 t1
          go_wp2_with fail
          go_ret
          exact ⟨.inr rfl, by rw [HW.out]; exact B1.out⟩
        · have t2 : decide ((1048576 : Int) < (t : Int) + 20) = false := by simp; omega
          have HB : Hid (t + 20 ≤ 1048576) := by show _ ≤ _; omega
          clear hbig h1 t1
          go_wp2_with fail
          go_roundg (n - (p + 1))
          case measure => have := HG.out; omega
          case rel => exact ⟨p + 1, t + 20, by omega, HB.out, by go_num, by go_num, by show _ = _; omega, HW⟩
      · go_wp2_with fail
        go_ret
        exact ⟨.inl ⟨rfl, by omega⟩, by rw [HW.out]; exact B1.out⟩

end Go.Proofs.Qxb6614450a.W
