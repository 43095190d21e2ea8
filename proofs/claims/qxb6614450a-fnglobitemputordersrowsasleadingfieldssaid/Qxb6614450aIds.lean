import Derived.Test.Qxb6614450aRows
import Derived.Test.Qxb6614450aVal
import Derived.WalkKit
import Derived.WalkLawsBesides
import Derived.Lib.EndianBits
import Derived.Lib.BytesEntry
import Derived.Laws.BitsAllLaws
import Derived.Deep.QuietTactic
import Derived.BigQuiet
import Derived.Deep.RegionWith
import Derived.Deep.LoopGhost
import Derived.Deep.Light
import Derived.BigRegion
import Derived.Deep.MidRow
import Derived.Deep.OwnRows
import Derived.Below
namespace Go.Proofs.Qxb6614450a.W
open Go.RowKit

theorem ret_int {k : IntKind} {a b : Int} (h : a = b) : Ending.returned (.int k a) = .returned (.int k b) := by rw [h]
theorem ret_bool {a b : Bool} (h : a = b) : Ending.returned (.bool a) = .returned (.bool b) := by rw [h]

theorem cell_lt {w : World} {a : Addr} {v : Value} (h : w.cell? a = some v) : a.block < w.heap.size := by
  unfold World.cell? at h
  by_cases e : a.block < w.heap.size
  · exact e
  · rw [Array.getElem?_eq_none (by omega)] at h
    simp at h

theorem cell_alloc {w : World} {a : Addr} {v : Value} (o : Obj) (h : w.cell? a = some v) : (w.alloc o).cell? a = some v := by
  rw [World.cell?_alloc_lt _ _ _ (cell_lt h)]
  exact h

theorem below_alloc (w : World) (o : Obj) : Below w.heap.size w (w.alloc o) := (Below.refl _ w).alloc (Nat.le_refl _) _
theorem below_drewN (w : World) (n : Nat) : Below w.heap.size w (w.drewN n) := ⟨rfl, rfl, rfl, Nat.le_refl _, fun _ _ => rfl⟩
theorem bthen {w w1 w2 : World} (h : Below w.heap.size w w1) (k : Below w1.heap.size w1 w2) : Below w.heap.size w w2 := h.trans (k.mono h.size)

/-- The twenty cells of an id. -/
def idL (f : Nat → Nat) : List Value := (List.range 20).map fun i => .int .u8 (f i : Nat)

theorem idL_len (f : Nat → Nat) : (idL f).length = 20 := by simp [idL]
theorem idL_get (f : Nat → Nat) (j : Nat) (hj : j < 20) : (idL f)[j]? = some (.int .u8 (f j : Nat)) := by simp [idL, hj]

/-- An id lies in memory. -/
def At (w : World) (b o : Nat) (f : Nat → Nat) : Prop := ∀ j, j < 20 → w.cell? ⟨b, o + j, none⟩ = some (.int .u8 (f j : Nat))

theorem At.range {w : World} {b o : Nat} {f : Nat → Nat} (h : At w b o f) : w.rangeAt b o (idL f) := fun j v hv => by
  have hj : j < 20 := by have := (List.getElem?_eq_some_iff.1 hv).1; rw [idL_len] at this; exact this
  rw [idL_get f j hj] at hv
  rw [h j hj, hv]

theorem At.new (w : World) (f : Nat → Nat) (t : TypeId) : At (w.alloc (.cells (idL f).toArray t)) w.heap.size 0 f := fun j hj => by
  rw [Nat.zero_add, World.cell?_alloc_new]
  simpa using idL_get f j hj

theorem At.below {w w' : World} {b o : Nat} {f : Nat → Nat} (h : At w b o f) (k : Below w.heap.size w w') : At w' b o f := fun j hj =>
  (k.cell (p := ⟨b, o + j, none⟩) (cell_lt (h j hj))).trans (h j hj)

set_option maxHeartbeats 1000000 in
theorem idCmp_calls (f g : Nat → Nat) (hf : ∀ j, f j < 256) (hg : ∀ j, g j < 256) (w : World) :
    Calls Try.prog 15 #[.agg (idL f).toArray, .agg (idL g).toArray] w fun e w' => e = .returned (.int .i64 (cmp3 (val f 20) (val g 20))) ∧ Below w.heap.size w w' := by
  have A1 : Hid (At ((w.alloc (.cells (idL f).toArray 25)).alloc (.cells (idL g).toArray 25)) w.heap.size 0 f) := (At.new w f 25).below (below_alloc _ _)
  have A2 : Hid (At ((w.alloc (.cells (idL f).toArray 25)).alloc (.cells (idL g).toArray 25)) (w.heap.size + 1) 0 g) := by
    have := At.new (w.alloc (.cells (idL f).toArray 25)) g 25
    rw [show (w.alloc (.cells (idL f).toArray 25)).heap.size = w.heap.size + 1 from Array.size_push _] at this
    exact this
  have B2 : Hid (Below w.heap.size w ((w.alloc (.cells (idL f).toArray 25)).alloc (.cells (idL g).toArray 25))) := bthen (below_alloc _ _) (below_alloc _ _)
  have HL : Hid (∀ k, k < 20 → (∀ j, j < k → f j = g j) → f k < g k → cmp3 (val f 20) (val g 20) = -1) := fun k hk h hl => cmp3_val_lt hf hk h hl
  have HG : Hid (∀ k, k < 20 → (∀ j, j < k → f j = g j) → g k < f k → cmp3 (val f 20) (val g 20) = 1) := fun k hk h hl => cmp3_val_gt hg hk h hl
  have HE : Hid ((∀ j, j < 20 → f j = g j) → cmp3 (val f 20) (val g 20) = 0) := fun h => cmp3_val_eq h
  generalize cmp3 (val f 20) (val g 20) = res at *
  go_enter Try.func15, Try.ntmps15
  go_wp2_with fail
  generalize (w.alloc (.cells (idL f).toArray 25)).alloc (.cells (idL g).toArray 25) = W2 at *
  go_loopg [5] 20 (fun gk i wr => ∃ k : Nat, k ≤ 20 ∧ i = .int .i64 k ∧ Hid (k + gk = 20) ∧ Hid (∀ j, j < k → f j = g j) ∧ Hid (∃ n, wr = W2.drewN n))
  case atStart => exact ⟨0, Nat.zero_le _, rfl, by show _ = _; omega, fun _ h => absurd h (Nat.not_lt_zero _), 0, rfl⟩
  case round =>
    obtain ⟨k, hk, rfl, HK, HP, hw⟩ := hrel
    have BR : Hid (Below w.heap.size w wr) := by
      obtain ⟨n, rfl⟩ := hw.out
      exact bthen B2.out (below_drewN _ _)
    by_cases hlt : k < 20
    · have c1 : wr.cell? ⟨w.heap.size, k, none⟩ = some (.int .u8 (f k : Nat)) := by
        obtain ⟨n, rfl⟩ := hw.out
        have := A1.out k hlt
        rw [Nat.zero_add] at this
        exact this
      have c2 : wr.cell? ⟨w.heap.size + 1, k, none⟩ = some (.int .u8 (g k : Nat)) := by
        obtain ⟨n, rfl⟩ := hw.out
        have := A2.out k hlt
        rw [Nat.zero_add] at this
        exact this
      have hL : Hid (f k < g k → res = -1) := fun h => HL.out k hlt HP.out h
      have hG : Hid (g k < f k → res = 1) := fun h => HG.out k hlt HP.out h
      have hN : Hid (f k = g k → ∀ j, j < k + 1 → f j = g j) := fun h j hj => by
        by_cases e : j = k
        · subst e; exact h
        · exact HP.out j (by omega)
      clear A1 A2 HL HG HE HP B2
      generalize f k = x at *
      generalize g k = y at *
      by_cases t1 : x < y
      · have s1 : decide ((x : Int) < (y : Int)) = true := by simp; omega
        go_wp2_with fail
        go_quiet (fail)
        go_wp2_with fail
        go_ret
        exact ⟨ret_int (hL.out t1).symm, bthen BR.out (below_drewN _ _)⟩
      · have s1 : decide ((x : Int) < (y : Int)) = false := by simp; omega
        by_cases t2 : y < x
        · have s2 : decide ((x : Int) > (y : Int)) = true := by simp; omega
          go_wp2_with fail
          go_quiet (fail)
          go_wp2_with fail
          go_quiet (fail)
          go_wp2_with fail
          go_ret
          refine ⟨ret_int (hG.out t2).symm, ?_⟩
          first | exact bthen BR.out (below_drewN _ _) | exact bthen (bthen BR.out (below_drewN _ _)) (below_drewN _ _)
        · have s2 : decide ((x : Int) > (y : Int)) = false := by simp; omega
          go_wp2_with fail
          go_quiet (fail)
          go_wp2_with fail
          go_quiet (fail)
          go_wp2_with fail
          go_roundg (20 - (k + 1))
          case measure => have := HK.out; omega
          case rel =>
            refine ⟨k + 1, by omega, by go_num, by show _ = _; omega, hN.out (by omega), ?_⟩
            obtain ⟨n, rfl⟩ := hw.out
            first | exact ⟨_, World.drewN_drewN _ _ _⟩ | exact ⟨_, (World.drewN_drewN _ _ _).trans (World.drewN_drewN _ _ _)⟩ | exact ⟨_, (congrArg _ (World.drewN_drewN _ _ _)).trans (World.drewN_drewN _ _ _)⟩
    · obtain rfl : k = 20 := by omega
      go_wp2_with fail
      go_ret
      exact ⟨ret_int (HE.out HP.out).symm, BR.out⟩

set_option maxHeartbeats 1000000 in
set_option maxRecDepth 100000 in
theorem uint64_calls (g n c : Nat) (f : Nat → Nat) (hf : ∀ j, f j < 256) (w : World) (hn : 8 ≤ n) (hc : ∀ j, j < 8 → w.cell? ⟨g, j, none⟩ = some (.int .u8 (f j : Nat))) :
    Calls Try.prog 41 #[.agg #[], .slice (some ⟨g, 0, none⟩) n c] w fun e w' => e = .returned (.int .u64 (val f 8 : Nat)) ∧ Below w.heap.size w w' := by
  rw [val8]
  have h0 := hf 0; have h1 := hf 1; have h2 := hf 2; have h3 := hf 3; have h4 := hf 4; have h5 := hf 5; have h6 := hf 6; have h7 := hf 7
  have d0 := cell_alloc (.cells #[] 83) (hc 0 (by decide))
  have d1 := cell_alloc (.cells #[] 83) (hc 1 (by decide))
  have d2 := cell_alloc (.cells #[] 83) (hc 2 (by decide))
  have d3 := cell_alloc (.cells #[] 83) (hc 3 (by decide))
  have d4 := cell_alloc (.cells #[] 83) (hc 4 (by decide))
  have d5 := cell_alloc (.cells #[] 83) (hc 5 (by decide))
  have d6 := cell_alloc (.cells #[] 83) (hc 6 (by decide))
  have d7 := cell_alloc (.cells #[] 83) (hc 7 (by decide))
  clear hc hf
  generalize f 0 = b0 at *
  generalize f 1 = b1 at *
  generalize f 2 = b2 at *
  generalize f 3 = b3 at *
  generalize f 4 = b4 at *
  generalize f 5 = b5 at *
  generalize f 6 = b6 at *
  generalize f 7 = b7 at *
  have q0 : 0 < n := by omega
  have q1 : (1 : Int) < (n : Int) := by omega
  have q2 : (2 : Int) < (n : Int) := by omega
  have q3 : (3 : Int) < (n : Int) := by omega
  have q4 : (4 : Int) < (n : Int) := by omega
  have q5 : (5 : Int) < (n : Int) := by omega
  have q6 : (6 : Int) < (n : Int) := by omega
  have q7 : (7 : Int) < (n : Int) := by omega
  go_enter Try.func41, Try.ntmps41
  go_wp2
  go_quiet (fail)
  go_wp2
  go_ret
  refine ⟨ret_int ?_, bthen (below_alloc _ _) (below_drewN _ _)⟩
  simp (disch := omega) only [u64_or8, u64_or16, u64_or24, u64_or32, u64_or40, u64_or48, u64_or56]
  push_cast
  omega

set_option maxHeartbeats 1000000 in
theorem cmpCompare_calls (x y : Nat) (w : World) :
    Calls Try.prog 42 #[.int .u64 x, .int .u64 y] w fun e w' => e = .returned (.int .i64 (cmp3 x y)) ∧ w' = w := by
  by_cases t1 : x < y
  · have s1 : decide ((x : Int) < (y : Int)) = true := by simp; omega
    rw [cmp3_lt t1]
    go_enter Try.func42, Try.ntmps42
    go_wp2
    go_ret
    exact ⟨rfl, rfl⟩
  · have s1 : decide ((x : Int) < (y : Int)) = false := by simp; omega
    by_cases t2 : y < x
    · have s2 : decide ((x : Int) > (y : Int)) = true := by simp; omega
      rw [cmp3_gt t2]
      go_enter Try.func42, Try.ntmps42
      go_wp2
      go_ret
      exact ⟨rfl, rfl⟩
    · have s2 : decide ((x : Int) > (y : Int)) = false := by simp; omega
      rw [cmp3_eq (show x = y by omega)]
      go_enter Try.func42, Try.ntmps42
      go_wp2
      go_ret
      exact ⟨rfl, rfl⟩

theorem run_bytes12 (b o c : Nat) (f : Nat → Nat) (w : World) (h : ∀ j, j < 12 → w.cell? ⟨b, o + j, none⟩ = some (.int .u8 (f j : Nat))) :
    (Extern.Bytes.bytesOf (.slice (some ⟨b, o, none⟩) 12 c)).run Try.prog w = .ok ⟨(byts f 12).toArray⟩ w := by
  have hl := Lib.run_loadBytesX (P := Try.prog) w ((List.range 12).map fun i => (f i : Int)) ⟨b, o, none⟩ .empty (fun j x hj => by
    have hj12 : j < 12 := by have := (List.getElem?_eq_some_iff.1 hj).1; simpa using this
    rw [Addr.add_mid, h j hj12]
    simp [hj12] at hj
    rw [← hj])
  have e1 : ((List.range 12).map fun i => (f i : Int)).length = 12 := by simp
  have e2 : Lib.bytesOf ((List.range 12).map fun i => (f i : Int)) = byts f 12 := by
    simp [Lib.bytesOf, byts]
  rw [e1, e2] at hl
  have he : (⟨ByteArray.empty.data ++ (byts f 12).toArray⟩ : ByteArray) = ⟨(byts f 12).toArray⟩ := by
    apply ByteArray.ext
    show (#[] : Array UInt8) ++ (byts f 12).toArray = (byts f 12).toArray
    simp
  rw [he] at hl
  exact hl

theorem run_compare12 (b b' : Nat) (f g : Nat → Nat) (hf : ∀ j, f j < 256) (hg : ∀ j, g j < 256) (w : World) (h : At w b 0 f) (h' : At w b' 0 g) :
    (Extern.BytealgCompare.compare #[.slice (some ⟨b, 8, none⟩) 12 12, .slice (some ⟨b', 8, none⟩) 12 12]).run Try.prog w = .ok (.int .i64 (cmp3 (val (fun j => f (8 + j)) 12) (val (fun j => g (8 + j)) 12))) w := by
  have e1 := run_bytes12 b 8 12 (fun j => f (8 + j)) w (fun j hj => by have := h (8 + j) (by omega); rw [Nat.zero_add] at this; exact this)
  have e2 := run_bytes12 b' 8 12 (fun j => g (8 + j)) w (fun j hj => by have := h' (8 + j) (by omega); rw [Nat.zero_add] at this; exact this)
  change Sem.run Try.prog (do pure (goInt (Extern.BytealgCompare.cmp (← Extern.Bytes.bytesOf (.slice (some ⟨b, 8, none⟩) 12 12)) (← Extern.Bytes.bytesOf (.slice (some ⟨b', 8, none⟩) 12 12))))) w = _
  simp only [Sem.run_bind, Sem.run_pure, e1, e2, Result.andThen]
  rw [Lib.cmp_eq]
  show Result.ok (goInt (Lib.compareBytes (byts (fun j => f (8 + j)) 12) (byts (fun j => g (8 + j)) 12))) w = _
  rw [compareBytes_val 12 _ _ (fun j => hf _) (fun j => hg _)]
  rfl

set_option maxHeartbeats 1000000 in
theorem bytesCompare_calls (b b' : Nat) (f g : Nat → Nat) (hf : ∀ j, f j < 256) (hg : ∀ j, g j < 256) (w : World) (h : At w b 0 f) (h' : At w b' 0 g) :
    Calls Try.prog 43 #[.slice (some ⟨b, 8, none⟩) 12 12, .slice (some ⟨b', 8, none⟩) 12 12] w fun e w' => e = .returned (.int .i64 (cmp3 (val (fun j => f (8 + j)) 12) (val (fun j => g (8 + j)) 12))) ∧ w' = w := by
  have hc := run_compare12 b b' f g hf hg w h h'
  generalize cmp3 (val (fun j => f (8 + j)) 12) (val (fun j => g (8 + j)) 12) = res at *
  clear h h'
  go_enter Try.func43, Try.ntmps43
  go_wp2
  rw [run_callFunc_extern Try.func48 (by kernel_rfl) (by kernel_rfl) (by kernel_rfl) (e := Extern.BytealgCompare.compare) (by kernel_rfl), hc]
  simp only [Result.andThen]
  rw [Oper.upon_value]
  go_wp2
  go_ret
  exact ⟨rfl, rfl⟩

end Go.Proofs.Qxb6614450a.W
