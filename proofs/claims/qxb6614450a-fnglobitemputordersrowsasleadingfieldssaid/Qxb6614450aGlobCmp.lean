import Derived.Test.Qxb6614450aGlobSmall
namespace Go.Proofs.Qxb6614450a.W
open Go.RowKit
set_option linter.unusedSimpArgs false

def firsts (n : Nat) (f : Nat → Nat) : List Nat := (List.range n).map f

theorem firsts_split (f : Nat → Nat) (p m : Nat) : firsts (p + (m + 1)) f = firsts p f ++ (f p :: firsts m (fun i => f (p + (i + 1)))) := by
  unfold firsts
  rw [List.range_add, List.map_append, List.range_succ_eq_map]
  simp [Function.comp_def]

theorem firsts_congr {f g : Nat → Nat} {p : Nat} (h : ∀ j, j < p → f j = g j) : firsts p f = firsts p g := List.map_congr_left fun i hi => h i (List.mem_range.1 hi)

theorem firsts_len (n : Nat) (f : Nat → Nat) : (firsts n f).length = n := by simp [firsts]

theorem cmpL_at {f g : Nat → Nat} {n p : Nat} (hp : p < n) (h : ∀ j, j < p → f j = g j) : cmpL (firsts n f) (firsts n g) = if f p < g p then -1 else if g p < f p then 1 else cmpL (firsts (n - p - 1) fun i => f (p + (i + 1))) (firsts (n - p - 1) fun i => g (p + (i + 1))) := by
  obtain ⟨m, rfl⟩ : ∃ m, n = p + (m + 1) := ⟨n - p - 1, by omega⟩
  rw [firsts_split, firsts_split, cmpL_append _ _ _ _ (by rw [firsts_len, firsts_len]), firsts_congr h, (cmpL_zero (firsts p g) (firsts p g) rfl).2 rfl, if_pos rfl, show p + (m + 1) - p - 1 = m by omega]
  rfl

theorem firsts_getD (L : List Nat) : firsts L.length (fun j => L.getD j 0) = L := by
  refine List.ext_getElem? fun i => ?_
  by_cases hi : i < L.length
  · simp [firsts, hi, List.getD]
  · rw [List.getElem?_eq_none (by rw [firsts_len]; omega), List.getElem?_eq_none (by omega)]

set_option maxHeartbeats 1000000 in
set_option maxRecDepth 100000 in
theorem cmpBytes_calls (ba bb c1 c2 : Nat) (f g : Nat → Nat) (w : World) (hf : ∀ j, j < 131 → w.cell? ⟨ba, j, none⟩ = some (.int .u8 (f j : Nat))) (hg : ∀ j, j < 131 → w.cell? ⟨bb, j, none⟩ = some (.int .u8 (g j : Nat))) :
    Calls Try.prog 19 #[.slice (some ⟨ba, 0, none⟩) 131 c1, .slice (some ⟨bb, 0, none⟩) 131 c2] w fun e w' => e = .returned (.int .i64 (cmpL (firsts 131 f) (firsts 131 g))) ∧ Below w.heap.size w w' := by
  have H1 : Hid (∀ w', Below w.heap.size w w' → ∀ j, j < 131 → w'.cell? ⟨ba, j, none⟩ = some (.int .u8 (f j : Nat))) := fun w' h j hj => by rw [h.cell (cell_lt (hf j hj))]; exact hf j hj
  have H2 : Hid (∀ w', Below w.heap.size w w' → ∀ j, j < 131 → w'.cell? ⟨bb, j, none⟩ = some (.int .u8 (g j : Nat))) := fun w' h j hj => by rw [h.cell (cell_lt (hg j hj))]; exact hg j hj
  have HA : Hid (∀ p, p < 131 → (∀ j, j < p → f j = g j) → cmpL (firsts 131 f) (firsts 131 g) = if f p < g p then -1 else if g p < f p then 1 else cmpL (firsts (131 - p - 1) fun i => f (p + (i + 1))) (firsts (131 - p - 1) fun i => g (p + (i + 1)))) := fun p hp h => cmpL_at hp h
  have HZ : Hid ((∀ j, j < 131 → f j = g j) → cmpL (firsts 131 f) (firsts 131 g) = 0) := fun h => by rw [firsts_congr h]; exact (cmpL_zero _ _ rfl).2 rfl
  generalize cmpL (firsts 131 f) (firsts 131 g) = r at *
  clear hf hg
  go_enter Try.func19, Try.ntmps19
  go_wp2_with fail
  go_loopg [6] 131 (fun gk i wr => ∃ p : Nat, p ≤ 131 ∧ i = .int .i64 p ∧ Hid (p + gk = 131) ∧ Hid (∀ j, j < p → f j = g j) ∧ Hid (Below w.heap.size w wr))
  case atStart => exact ⟨0, Nat.zero_le _, rfl, by show _ = _; omega, fun j hj => absurd hj (Nat.not_lt_zero _), Below.refl _ _⟩
  case round =>
    obtain ⟨p, hp, rfl, HG, HE, HB⟩ := hrel
    by_cases hlt : p < 131
    · have r1 := H1.out wr HB.out p hlt
      have r2 := H2.out wr HB.out p hlt
      have hr := HA.out p hlt HE.out
      by_cases h1 : f p < g p
      · have t1 : (f p : Int) < (g p : Int) := by omega
        have e : r = -1 := by rw [hr, if_pos h1]
        have ER : Hid (r = -1) := e
        clear hr e h1
        go_wp2_with fail
        go_quiet (fail)
        go_wp2_with fail
        go_ret
        exact ⟨ret_int ER.out.symm, HB.out.trans ((below_drewN _ _).mono HB.out.size)⟩
      · have t1 : ¬ (f p : Int) < (g p : Int) := by omega
        by_cases h2 : g p < f p
        · have t2 : (g p : Int) < (f p : Int) := by omega
          have e : r = 1 := by rw [hr, if_neg h1, if_pos h2]
          have ER : Hid (r = 1) := e
          clear hr e h1 h2
          go_wp2_with fail
          go_quiet (fail)
          go_wp2_with fail
          go_quiet (fail)
          go_wp2_with fail
          go_ret
          exact ⟨ret_int ER.out.symm, (HB.out.trans ((below_drewN _ _).mono HB.out.size)).trans ((below_drewN _ _).mono HB.out.size)⟩
        · have t2 : ¬ (g p : Int) < (f p : Int) := by omega
          have EN : Hid (∀ j, j < p + 1 → f j = g j) := fun j hj => by
            by_cases e : j = p
            · rw [e]; omega
            · exact HE.out j (by omega)
          clear hr h1 h2
          go_wp2_with fail
          go_quiet (fail)
          go_wp2_with fail
          go_quiet (fail)
          go_wp2_with fail
          go_roundg (131 - (p + 1))
          case measure => have := HG.out; omega
          case rel => exact ⟨p + 1, by omega, by go_num, by show _ = _; omega, EN, HB.out.trans ((below_drewN _ _).mono HB.out.size)⟩
    · obtain rfl : p = 131 := by omega
      have ER : Hid (r = 0) := HZ.out HE.out
      go_wp2_with fail
      go_ret
      exact ⟨ret_int ER.out.symm, HB.out⟩

set_option maxHeartbeats 1000000 in
set_option maxRecDepth 100000 in
theorem tailKept_calls (ba bb n c1 c2 : Nat) (t : Nat → Nat) (w : World) (hn : n ≤ 1048576) (h131 : 131 ≤ n) (hf : ∀ j, 131 ≤ j → j < n → w.cell? ⟨ba, j, none⟩ = some (.int .u8 (t j : Nat))) (hg : ∀ j, 131 ≤ j → j < n → w.cell? ⟨bb, j, none⟩ = some (.int .u8 (t j : Nat))) :
    Calls Try.prog 23 #[.slice (some ⟨ba, 0, none⟩) n c1, .slice (some ⟨bb, 0, none⟩) n c2] w fun e w' => e = .returned (.bool true) ∧ Below w.heap.size w w' := by
  have H1 : Hid (∀ w', Below w.heap.size w w' → ∀ j, 131 ≤ j → j < n → w'.cell? ⟨ba, j, none⟩ = some (.int .u8 (t j : Nat))) := fun w' h j h1 hj => by rw [h.cell (cell_lt (hf j h1 hj))]; exact hf j h1 hj
  have H2 : Hid (∀ w', Below w.heap.size w w' → ∀ j, 131 ≤ j → j < n → w'.cell? ⟨bb, j, none⟩ = some (.int .u8 (t j : Nat))) := fun w' h j h1 hj => by rw [h.cell (cell_lt (hg j h1 hj))]; exact hg j h1 hj
  clear hf hg
  go_enter Try.func23, Try.ntmps23
  go_wp2_with fail
  go_loopg [5] n (fun gk i wr => ∃ p : Nat, 131 ≤ p ∧ p ≤ n ∧ i = .int .i64 p ∧ Hid (p + gk = n + 131) ∧ Hid (Below w.heap.size w wr))
  case atStart => exact ⟨131, Nat.le_refl _, h131, rfl, by show _ = _; omega, Below.refl _ _⟩
  case round =>
    obtain ⟨p, hp1, hp, rfl, HG, HB⟩ := hrel
    by_cases hlt : p < n
    · have r1 := H1.out wr HB.out p hp1 hlt
      have r2 := H2.out wr HB.out p hp1 hlt
      go_wp2_with fail
      go_quiet (fail)
      go_wp2_with fail
      go_roundg (n + 131 - (p + 1))
      case measure => have := HG.out; omega
      case rel => exact ⟨p + 1, by omega, by omega, by go_num, by show _ = _; omega, HB.out.trans ((below_drewN _ _).mono HB.out.size)⟩
    · go_wp2_with fail
      go_ret
      exact ⟨rfl, HB.out⟩

end Go.Proofs.Qxb6614450a.W
