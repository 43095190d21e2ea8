import Derived.Test.Qxb6614450aHeld
import Derived.Laws.MakeOwn
namespace Go.Proofs.Qxb6614450a.W
open Go.RowKit

theorem info53 : (Try.prog.info? 53).map (fun i => (i.zero, i.size, i.bytes)) = some (some (.agg (objL fun _ => 0).toArray), 24, 48) := by kernel_rfl

/-- The cells of n new objects. -/
def noObjs (n : Nat) : Array Value := madeCells (objL fun _ => 0).toArray (n * 24)

theorem makeObjs (n : Nat) (hn : n ≤ 65536) (w : World) :
    (Instr.makeSlice 28 (.int .i64 (n : Int)) (.int .i64 (n : Int))).run Try.prog w = .ok (.slice (some ⟨w.heap.size, 0, none⟩) n n) (w.alloc (.cells (noObjs n) 53)) := by
  obtain ⟨i, hi, hzz⟩ := Option.map_eq_some_iff.1 info53
  simp only [Prod.mk.injEq] at hzz
  obtain ⟨hz, hs, hb⟩ := hzz
  have hr := run_make (P := Try.prog) w 28 53 i _ Try.underlying28 hi hz .i64 .i64 n n (by omega) (Int.le_refl _) (by rw [hb]; omega) (by omega)
  rw [hs] at hr
  simpa [noObjs, Value.cells] using hr

theorem noObjs_get (n j : Nat) (hj : j < n * 24) : (noObjs n)[j]? = some ((objL fun _ => 0).toArray[j % 24]!) := by
  have : (objL fun _ => 0).toArray.size = 24 := by simp [objL_len]
  simp [noObjs, madeCells, this, hj]

theorem noObjs_rest (n i j : Nat) (hi : i < n) (hj : j < 4) : (noObjs n)[i * 24 + 20 + j]? = restL[j]? := by
  rw [noObjs_get n _ (by omega), show (i * 24 + 20 + j) % 24 = 20 + j by omega]
  have : j = 0 ∨ j = 1 ∨ j = 2 ∨ j = 3 := by omega
  rcases this with rfl | rfl | rfl | rfl <;> rfl

theorem below_setCells {B : Nat} {w : World} (b : Nat) (hb : B ≤ b) : ∀ (vs : List Value) (o : Nat) (w' : World), Below B w w' → Below B w (w'.setCells b o vs)
  | [], _, _, h => h
  | v :: r, o, _, h => below_setCells b hb r (o + 1) _ (h.setCell (p := ⟨b, o, none⟩) hb v)

theorem rangeAt_append {w : World} {b o : Nat} {c1 c2 : List Value} (h1 : w.rangeAt b o c1) (h2 : w.rangeAt b (o + c1.length) c2) : w.rangeAt b o (c1 ++ c2) := fun j v hv => by
  by_cases hj : j < c1.length
  · rw [List.getElem?_append_left hj] at hv
    exact h1 j v hv
  · rw [List.getElem?_append_right (by omega)] at hv
    have := h2 (j - c1.length) v hv
    rw [show o + c1.length + (j - c1.length) = o + j by omega] at this
    exact this

/-- The objects' row while it is filled. -/
structure Fills (w wr : World) (H n p : Nat) (F : Nat → Nat → Nat) : Prop where
  bel : Below H w wr
  ids : ∀ i, i < p → wr.rangeAt H (i * 24) (idL (F i))
  rest : ∀ i, i < n → wr.rangeAt H (i * 24 + 20) restL
  there : wr.there H 0 (n * 24)

theorem idL_one (f : Nat → Nat) : (idL f).toArray.all (·.oneCell') = true := all_oneCell_toArray fun v hv => by
  simp only [idL, List.mem_map, List.mem_range] at hv
  obtain ⟨i, _, rfl⟩ := hv
  rfl

theorem Fills.new (w : World) (n : Nat) (F : Nat → Nat → Nat) : Fills w (w.alloc (.cells (noObjs n) 53)) w.heap.size n 0 F := by
  have hc : ∀ j, (w.alloc (.cells (noObjs n) 53)).cell? ⟨w.heap.size, j, none⟩ = (noObjs n)[j]? := fun j => World.cell?_alloc_new w _ _ j
  refine ⟨below_alloc _ _, fun i hi => absurd hi (Nat.not_lt_zero _), fun i hi j v hv => ?_, fun j hj => ⟨?_, ?_⟩⟩
  · rw [hc, noObjs_rest n i j hi (by have := (List.getElem?_eq_some_iff.1 hv).1; simpa [restL] using this)]
    exact hv
  · rw [hc, Nat.zero_add, noObjs_get n j hj]
    rfl
  · exact World.frozen?_alloc_at _ _ _ _ rfl

theorem there_mid {w : World} {b N o n : Nat} (h : w.there b 0 N) (ho : o + n ≤ N) : w.there b o n := fun j hj => by
  have := h (o + j) (by omega)
  rw [Nat.zero_add] at this
  exact this

theorem Fills.next {w wr : World} {H n p : Nat} {F : Nat → Nat → Nat} (h : Fills w wr H n p F) (hp : p < n) : Fills w (wr.setCells H (p * 24) (idL (F p))) H n (p + 1) F := by
  refine ⟨below_setCells H (Nat.le_refl _) _ _ _ h.bel, fun i hi => ?_, fun i hi => ?_, World.there_setCells h.there _ _ _⟩
  · by_cases e : i = p
    · rw [e]
      exact World.rangeAt_setCells_same _ _ _ _ (there_mid h.there (by rw [idL_len]; omega))
    · exact World.rangeAt_setCells_apart (h.ids i (by omega)) _ _ _ (.inr (.inl (by rw [idL_len]; omega)))
  · refine World.rangeAt_setCells_apart (h.rest i hi) _ _ _ (.inr ?_)
    rw [idL_len]
    have : restL.length = 4 := rfl
    omega

theorem Fills.objs {w wr : World} {H n : Nat} {F : Nat → Nat → Nat} (h : Fills w wr H n n F) : Objs wr (some ⟨H, 0, none⟩) n F := fun _ =>
  ⟨H, 0, rfl, fun i hi => by
    rw [Nat.zero_add]
    exact rangeAt_append (h.ids i hi) (by rw [idL_len]; exact h.rest i hi)⟩

set_option maxHeartbeats 400000 in
theorem idsHeld_calls (a : Option Addr) (n c : Nat) (F : Nat → Nat → Nat) (w : World) (hn : n ≤ 65536) (ho : Ids w a n F) :
    Calls Try.prog 11 #[.slice a n c] w fun e w' => e = .returned (.slice (some ⟨w.heap.size, 0, none⟩) n n) ∧ Below w.heap.size w w' ∧ Objs w' (some ⟨w.heap.size, 0, none⟩) n F := by
  have HO : Hid (Ids w a n F) := ho
  have F0 : Hid (Fills w (w.alloc (.cells (noObjs n) 53)) w.heap.size n 0 F) := Fills.new w n F
  have mk := makeObjs n hn w
  clear ho
  go_enter Try.func11, Try.ntmps11
  go_wp2_with fail
  clear mk
  generalize w.alloc (.cells (noObjs n) 53) = W1 at *
  obtain ⟨H, hH⟩ : ∃ H, H = w.heap.size := ⟨_, rfl⟩
  rw [← hH] at F0
  rw [← hH]
  have HH : Hid (H = w.heap.size) := hH
  clear hH
  go_loopg [4] n (fun gk i wr => ∃ p : Nat, p ≤ n ∧ i = .int .i64 p ∧ Hid (p + gk = n) ∧ Hid (Fills w wr H n p F))
  case atStart => exact ⟨0, Nat.zero_le _, rfl, by show _ = _; omega, F0⟩
  case round =>
    obtain ⟨p, hp, rfl, HG, HFL⟩ := hrel
    by_cases hlt : p < n
    · obtain ⟨b, o, rfl, hr⟩ := HO.out (by omega)
      have RM : Hid (wr.rangeAt b (o + p * 20) (idL (F p))) := rangeAt_below (hr p hlt).range (by have := HFL.out.bel; rw [HH.out] at this; exact this)
      have TH : Hid (wr.there H (p * 24) (idL (F p)).toArray.size) := there_mid HFL.out.there (by simp [idL_len]; omega)
      have FN : Hid (Fills w (wr.setCells H (p * 24) (idL (F p)).toArray.toList) H n (p + 1) F) := HFL.out.next hlt
      have SZ : Hid ((Try.prog.info? 30).map (·.size) = some (idL (F p)).toArray.size) := by show _ = _; simpa using szL30 (F p)
      clear hr
      go_wp2_with (first | (refine wpList_load_mid rfl 25 _ rfl b (o + p * 20) ?hxa (idL (F p)) _ RM.out Try.underlying25 rfl (szL25 (F p)) ?_; case hxa => kernel_rfl) | (refine wpList_store_mid rfl 30 _ _ rfl H (p * 24) (idL (F p)).toArray ?hxb ?hyb TH.out SZ.out (idL_one (F p)) ?_; (case hxb => kernel_rfl); (case hyb => kernel_rfl); generalize wr.setCells H (p * 24) (idL (F p)).toArray.toList = wq at FN ⊢))
      go_roundg (n - (p + 1))
      case measure => have := HG.out; omega
      case rel => exact ⟨p + 1, by omega, by go_num, by show _ = _; omega, FN⟩
    · obtain rfl : p = n := by omega
      go_wp2_with fail
      go_ret
      obtain rfl := HH.out
      exact ⟨rfl, HFL.out.bel, HFL.out.objs⟩

end Go.Proofs.Qxb6614450a.W
