import Derived.Test.Qxb6614450aGlobNew
namespace Go.Proofs.Qxb6614450a.W
open Go.RowKit
set_option linter.unusedSimpArgs false

/-! ### The small readers -/
theorem cmpU64_calls (x y : Nat) (w : World) : Calls Try.prog 20 #[.int .u64 (x : Nat), .int .u64 (y : Nat)] w fun e w' => e = .returned (.int .i64 (cmp3 x y)) ∧ w' = w := by
  by_cases h1 : x < y
  · have e := cmp3_lt h1
    rw [e]
    have t1 : (x : Int) < (y : Int) := by omega
    go_enter Try.func20, Try.ntmps20
    go_wp2
    go_ret
    exact ⟨rfl, rfl⟩
  · have t1 : ¬ (x : Int) < (y : Int) := by omega
    by_cases h2 : y < x
    · have e := cmp3_gt h2
      rw [e]
      have t2 : (y : Int) < (x : Int) := by omega
      clear h1 h2
      go_enter Try.func20, Try.ntmps20
      go_wp2
      go_ret
      exact ⟨rfl, rfl⟩
    · have e := cmp3_eq (show x = y by omega)
      rw [e]
      have t2 : ¬ (y : Int) < (x : Int) := by omega
      clear h1 h2
      go_enter Try.func20, Try.ntmps20
      go_wp2
      go_ret
      exact ⟨rfl, rfl⟩

theorem cmpBool_calls (x y : Bool) (w : World) : Calls Try.prog 21 #[.bool x, .bool y] w fun e w' => e = .returned (.int .i64 (cmpB x y)) ∧ w' = w := by
  cases x <;> cases y
  all_goals
    go_enter Try.func21, Try.ntmps21
    go_wp2
    go_ret
    exact ⟨rfl, rfl⟩

set_option maxHeartbeats 1000000 in
theorem globCode_calls (G : Glob) (hc : G.code < 256) (w : World) : Calls Try.prog 29 #[.agg (globL G).toArray] w fun e w' => e = .returned (.int .u8 (codeB G : Nat)) ∧ Below w.heap.size w w' := by
  have h1 : (w.alloc (.cells (globL G).toArray 37)).cell? ⟨w.heap.size, 33, none⟩ = some (.int .u8 (G.code : Nat)) := glob_cell (range_new w (globL G) 37) 33 _ rfl
  have h2 : (w.alloc (.cells (globL G).toArray 37)).cell? ⟨w.heap.size, 34, none⟩ = some (.bool G.held) := glob_cell (range_new w (globL G) 37) 34 _ rfl
  have h3 : (w.alloc (.cells (globL G).toArray 37)).cell? ⟨w.heap.size, 35, none⟩ = some (.bool G.inl) := glob_cell (range_new w (globL G) 37) 35 _ rfl
  have B1 : Hid (Below w.heap.size w (w.alloc (.cells (globL G).toArray 37))) := below_alloc _ _
  have E : Hid (codeB G = ((G.code ||| (if G.held then 128 else 0)) ||| (if G.inl then 64 else 0)) % 256) := rfl
  generalize codeB G = cB at *
  generalize G.code = o at *
  generalize G.held = he at *
  generalize G.inl = il at *
  generalize (globL G).toArray = cs at *
  cases he <;> cases il
  · go_enter Try.func29, Try.ntmps29
    go_wp2_with fail
    go_ret
    exact ⟨ret_int (by rw [E.out]; show (o : Int) = (((o ||| 0) ||| 0) % 256 : Nat); rw [or_mod o 0 0 hc (by omega) (by omega), Nat.or_zero, Nat.or_zero]), B1.out⟩
  · go_enter Try.func29, Try.ntmps29
    go_wp2_with fail
    go_ret
    exact ⟨ret_int (by rw [E.out]; exact code_ft o hc), B1.out⟩
  · go_enter Try.func29, Try.ntmps29
    go_wp2_with fail
    go_ret
    exact ⟨ret_int (by rw [E.out]; exact code_tf o hc), B1.out⟩
  · go_enter Try.func29, Try.ntmps29
    go_wp2_with fail
    go_ret
    exact ⟨ret_int (by rw [E.out]; exact code_tt o hc), B1.out⟩

theorem zzBytes16_calls (G K : Glob) (a : Option Addr) (n c : Nat) (w : World) (hn : n ≤ 9223372036854775807) :
    Calls Try.prog 16 #[.agg (globL G).toArray, .agg (globL K).toArray, .slice a n c] w fun e w' => (e = .returned (.bool true) ∨ e = .returned (.bool false)) ∧ Below w.heap.size w w' := by
  have B1 : Hid (Below w.heap.size w ((w.alloc (.cells (globL G).toArray 37)).alloc (.cells (globL K).toArray 37))) := bthen (below_alloc _ _) (below_alloc _ _)
  by_cases h1 : 1048576 < n
  · have t1 : decide ((1048576 : Int) < (n : Int)) = true := by simp; omega
    go_enter Try.func16, Try.ntmps16
    go_wp2_with fail
    go_ret
    exact ⟨.inr rfl, B1.out⟩
  · have t1 : decide ((1048576 : Int) < (n : Int)) = false := by simp; omega
    have hn2 : n ≤ 1048576 := by omega
    clear hn
    go_enter Try.func16, Try.ntmps16
    go_wp2_with fail
    go_ret
    exact ⟨.inl rfl, B1.out⟩

/-! ### copyBytes -/
theorem info5 : (Try.prog.info? 5).map (fun i => (i.zero, i.size, i.bytes)) = some (some (.int .u8 0), 1, 1) := by kernel_rfl

def zeros (n : Nat) : Array Value := madeCells #[.int .u8 0] n

theorem makeBytes (n : Nat) (hn : n ≤ 1048576) (w : World) :
    (Instr.makeSlice 38 (.int .i64 (n : Int)) (.int .i64 (n : Int))).run Try.prog w = .ok (.slice (some ⟨w.heap.size, 0, none⟩) n n) (w.alloc (.cells (zeros n) 5)) := by
  obtain ⟨i, hi, hzz⟩ := Option.map_eq_some_iff.1 info5
  simp only [Prod.mk.injEq] at hzz
  obtain ⟨hz, hs, hb⟩ := hzz
  have hr := run_make (P := Try.prog) w 38 5 i _ Try.underlying38 hi hz .i64 .i64 n n (by omega) (Int.le_refl _) (by rw [hb]; omega) (by omega)
  rw [hs] at hr
  simpa [zeros, Value.cells] using hr

structure Copies (w wr : World) (H n p : Nat) (f : Nat → Nat) : Prop where
  bel : Below w.heap.size w wr
  new : w.heap.size ≤ H ∧ H < wr.heap.size
  cells : ∀ j, j < p → wr.cell? ⟨H, j, none⟩ = some (.int .u8 (f j : Nat))
  there : wr.there H 0 n

theorem Copies.first (w : World) (n : Nat) (f : Nat → Nat) : Copies w (w.alloc (.cells (zeros n) 5)) w.heap.size n 0 f := by
  have hc : ∀ j, (w.alloc (.cells (zeros n) 5)).cell? ⟨w.heap.size, j, none⟩ = (zeros n)[j]? := fun j => World.cell?_alloc_new w _ _ j
  refine ⟨below_alloc _ _, ⟨Nat.le_refl _, by simp⟩, fun j hj => absurd hj (Nat.not_lt_zero _), fun j hj => ⟨?_, ?_⟩⟩
  · rw [hc, Nat.zero_add]
    simp [zeros, madeCells, hj]
  · exact World.frozen?_alloc_at _ _ _ _ rfl

theorem Copies.next {w wr : World} {H n p : Nat} {f : Nat → Nat} (h : Copies w wr H n p f) (hp : p < n) : Copies w (wr.setCell ⟨H, p, none⟩ (.int .u8 (f p : Nat))) H n (p + 1) f := by
  have ht := h.there p hp
  rw [Nat.zero_add] at ht
  obtain ⟨x, hx⟩ := Option.isSome_iff_exists.1 ht.1
  refine ⟨h.bel.setCell h.new.1 _, ⟨h.new.1, by simp; exact h.new.2⟩, fun j hj => ?_, ?_⟩
  · by_cases e : j = p
    · rw [e]
      exact World.cell?_setCell_same _ _ _ hx
    · have := World.rangeAt_setCells_apart (w := wr) (b' := H) (o' := j) (cs := [.int .u8 (f j : Nat)]) (fun i v hv => by
        match i with
        | 0 => simp at hv; rw [← hv]; exact h.cells j (by omega)
        | i + 1 => simp at hv) H p [.int .u8 (f p : Nat)] (.inr (by simp; omega))
      exact this 0 _ rfl
  · exact World.there_setCells h.there H p [.int .u8 (f p : Nat)]

set_option maxHeartbeats 1000000 in
set_option maxRecDepth 100000 in
theorem copyBytes_calls (b o n c : Nat) (f : Nat → Nat) (w : World) (hn : n ≤ 1048576) (hc : ∀ j, j < n → w.cell? ⟨b, o + j, none⟩ = some (.int .u8 (f j : Nat))) :
    Calls Try.prog 17 #[.slice (some ⟨b, o, none⟩) n c] w fun e w' => e = .returned (.slice (some ⟨w.heap.size, 0, none⟩) n n) ∧ Below w.heap.size w w' ∧ w.heap.size < w'.heap.size ∧ Part w' w.heap.size n [] 0 f := by
  have HC : Hid (∀ j, j < n → w.cell? ⟨b, o + j, none⟩ = some (.int .u8 (f j : Nat))) := hc
  have F0 : Hid (Copies w (w.alloc (.cells (zeros n) 5)) w.heap.size n 0 f) := Copies.first w n f
  have mk := makeBytes n hn w
  have nl : (binOp BinOp.eql 38 (.slice (some ⟨b, o, none⟩) n c) (.slice none 0 0)).run Try.prog w = .ok (.bool false) w := by kernel_rfl
  clear hc
  go_enter Try.func17, Try.ntmps17
  go_wp2_with fail
  clear mk nl
  generalize w.alloc (.cells (zeros n) 5) = W1 at *
  obtain ⟨H, hH⟩ : ∃ H, H = w.heap.size := ⟨_, rfl⟩
  rw [← hH] at F0
  rw [← hH]
  have HH : Hid (H = w.heap.size) := hH
  clear hH
  go_loopg [4] n (fun gk i wr => ∃ p : Nat, p ≤ n ∧ i = .int .i64 p ∧ Hid (p + gk = n) ∧ Hid (Copies w wr H n p f))
  case atStart => exact ⟨0, Nat.zero_le _, rfl, by show _ = _; omega, F0⟩
  case round =>
    obtain ⟨p, hp, rfl, HG, HFL⟩ := hrel
    clear F0
    by_cases hlt : p < n
    · have r1 : wr.cell? ⟨b, o + p, none⟩ = some (.int .u8 (f p : Nat)) := by
        have := HC.out p hlt
        rw [HFL.out.bel.cell (cell_lt this)]
        exact this
      have ht := HFL.out.there p hlt
      rw [Nat.zero_add] at ht
      obtain ⟨x, hx⟩ := Option.isSome_iff_exists.1 ht.1
      have hf := ht.2
      have FN : Hid (Copies w (wr.setCell ⟨H, p, none⟩ (.int .u8 (f p : Nat))) H n (p + 1) f) := HFL.out.next hlt
      clear ht
      go_wp2_with fail
      go_roundg (n - (p + 1))
      case measure => have := HG.out; omega
      case rel => exact ⟨p + 1, by omega, by go_num, by show _ = _; omega, FN⟩
    · obtain rfl : p = n := by omega
      go_wp2_with fail
      go_ret
      obtain rfl := HH.out
      exact ⟨rfl, HFL.out.bel, HFL.out.new.2, ⟨by simp, fun j x hx => by simp at hx, fun j _ h2 => HFL.out.cells j h2, HFL.out.there⟩⟩

end Go.Proofs.Qxb6614450a.W
