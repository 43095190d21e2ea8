import Derived.Test.Qxb6614450aIds
import Derived.Deep.RegionHeld2
namespace Go.Proofs.Qxb6614450a.W
open Go.RowKit

/-- All that lay there lies there yet. -/
structure Keeps (w w' : World) : Prop where
  b : Below w.heap.size w w'
/-- An id in memory, a whole block. -/
structure IdAt (w : World) (b : Nat) (f : Nat → Nat) : Prop where
  here : At w b 0 f
  lt : ∀ j, f j < 256
theorem Keeps.first (w : World) : Keeps w w.drew := ⟨(Below.refl _ _).drew⟩

set_option maxHeartbeats 1000000 in
theorem compareIDs_calls (f g : Nat → Nat) (hf : ∀ j, f j < 256) (hg : ∀ j, g j < 256) (w : World) :
    Calls Try.prog 35 #[.agg (idL f).toArray, .agg (idL g).toArray] w fun e w' => e = .returned (.int .i64 (cmp3 (val f 20) (val g 20))) ∧ Below w.heap.size w w' := by
  have A1 : Hid (At ((w.alloc (.cells (idL f).toArray 30)).alloc (.cells (idL g).toArray 30)) w.heap.size 0 f) := (At.new w f 30).below (below_alloc _ _)
  have A2 : Hid (At ((w.alloc (.cells (idL f).toArray 30)).alloc (.cells (idL g).toArray 30)) (w.heap.size + 1) 0 g) := by
    have := At.new (w.alloc (.cells (idL f).toArray 30)) g 30
    rw [show (w.alloc (.cells (idL f).toArray 30)).heap.size = w.heap.size + 1 from Array.size_push _] at this
    exact this
  have B2 : Hid (Below w.heap.size w ((w.alloc (.cells (idL f).toArray 30)).alloc (.cells (idL g).toArray 30))) := bthen (below_alloc _ _) (below_alloc _ _)
  have CS : Hid (cmp3 (val f 20) (val g 20) = if val f 8 = val g 8 then cmp3 (val (fun j => f (8 + j)) 12) (val (fun j => g (8 + j)) 12) else cmp3 (val f 8) (val g 8)) := cmp3_split hf hg
  generalize cmp3 (val f 20) (val g 20) = res at *
  go_enter Try.func35, Try.ntmps35
  go_wp2_with fail
  generalize (w.alloc (.cells (idL f).toArray 30)).alloc (.cells (idL g).toArray 30) = W2 at *
  have I1 : IdAt W2 w.heap.size f := ⟨A1.out, hf⟩
  have I2 : IdAt W2 (w.heap.size + 1) g := ⟨A2.out, hg⟩
  have UU : Hid (∀ b h, IdAt W2 b h → ∀ W, Keeps W2 W → Calls Try.prog 41 #[.agg #[], .slice (some ⟨b, 0, none⟩) 8 20] W fun e w' => e = .returned (.int .u64 (val h 8 : Nat)) ∧ Keeps W2 w') := fun b h hI W hW =>
    (uint64_calls b 8 20 h hI.lt W (Nat.le_refl _) fun j hj => by have := hI.here.below hW.b j (by omega); rw [Nat.zero_add] at this; exact this).mono fun e w' h => ⟨h.1, ⟨bthen hW.b h.2⟩⟩
  have CB : Hid (∀ W, Keeps W2 W → Calls Try.prog 43 #[.slice (some ⟨w.heap.size, 8, none⟩) 12 12, .slice (some ⟨w.heap.size + 1, 8, none⟩) 12 12] W fun e w' => e = .returned (.int .i64 (cmp3 (val (fun j => f (8 + j)) 12) (val (fun j => g (8 + j)) 12))) ∧ w' = W) := fun W hW =>
    bytesCompare_calls _ _ f g hf hg W (A1.out.below hW.b) (A2.out.below hW.b)
  clear A1 A2 hf hg
  go_region_held2 (fun w' => Keeps W2 w') (first | assumption | exact Keeps.first _) ((go_at_call 41; refine (UU.out _ _ (by assumption) _ (by assumption)).mono ?_; rintro e w7 ⟨rfl, h7⟩))
  rename_i hk7 hk8
  have HB : Hid (Below w.heap.size w w7) := bthen B2.out h7.b
  have CB2 : Hid (Calls Try.prog 43 #[.slice (some ⟨w.heap.size, 8, none⟩) 12 12, .slice (some ⟨w.heap.size + 1, 8, none⟩) 12 12] w7.drew fun e w' => e = .returned (.int .i64 (cmp3 (val (fun j => f (8 + j)) 12) (val (fun j => g (8 + j)) 12))) ∧ w' = w7.drew) := CB.out _ ⟨h7.b.drew⟩
  clear UU CB I1 I2
  generalize cmp3 (val (fun j => f (8 + j)) 12) (val (fun j => g (8 + j)) 12) = res2 at *
  generalize val f 8 = x at *
  generalize val g 8 = y at *
  by_cases hxy : x = y
  · have t1 : ((x : Int) != (y : Int)) = false := by simp [hxy]
    have CR : Hid (res = res2) := by have := CS.out; rw [if_pos hxy] at this; exact this
    clear CS hxy
    go_wp2_with fail
    go_region_with ((go_at_call 43; refine CB2.out.mono ?_; rintro e w9 ⟨rfl, rfl⟩))
    go_wp2_with fail
    go_ret
    exact ⟨ret_int CR.out.symm, HB.out.drew⟩
  · have t1 : ((x : Int) != (y : Int)) = true := by simp; omega
    have CR : Hid (res = cmp3 x y) := by have := CS.out; rw [if_neg hxy] at this; exact this
    clear CS hxy
    go_wp2_with fail
    refine (cmpCompare_calls x y _).mono ?_
    rintro e w9 ⟨rfl, hw9⟩
    rw [hw9]
    go_wp2_with fail
    go_ret
    exact ⟨ret_int CR.out.symm, HB.out⟩

theorem size30 : (Try.prog.info? 30).map (·.size) = some 20 := by kernel_rfl
theorem size25 : (Try.prog.info? 25).map (·.size) = some 20 := by kernel_rfl
theorem size53 : (Try.prog.info? 53).map (·.size) = some 24 := by kernel_rfl

theorem szL30 (f : Nat → Nat) : (Try.prog.info? 30).map (·.size) = some (idL f).length := by rw [idL_len]; exact size30
theorem szL25 (f : Nat → Nat) : (Try.prog.info? 25).map (·.size) = some (idL f).length := by rw [idL_len]; exact size25

/-- What stands in an object behind its id. -/
def restL : List Value := [.int .u8 0, .int .i64 0, .int .i64 0, .int .i64 0]
def objL (f : Nat → Nat) : List Value := idL f ++ restL
theorem szL53 (f : Nat → Nat) : (Try.prog.info? 53).map (·.size) = some (objL f).length := by
  rw [show (objL f).length = 24 by simp [objL, idL_len, restL]]; exact size53
theorem objL_len (f : Nat → Nat) : (objL f).length = 24 := by simp [objL, idL_len, restL]

theorem At.newObj (w : World) (f : Nat → Nat) (t : TypeId) : At (w.alloc (.cells (objL f).toArray t)) w.heap.size 0 f := fun j hj => by
  rw [Nat.zero_add, World.cell?_alloc_new]
  have : (objL f)[j]? = some (.int .u8 (f j : Nat)) := by
    rw [objL, List.getElem?_append_left (by rw [idL_len]; exact hj)]
    exact idL_get f j hj
  simpa using this

set_option maxHeartbeats 1000000 in
theorem compareObjectID_calls (f g : Nat → Nat) (hf : ∀ j, f j < 256) (hg : ∀ j, g j < 256) (w : World) :
    Calls Try.prog 32 #[.agg (objL f).toArray, .agg (idL g).toArray] w fun e w' => e = .returned (.int .i64 (cmp3 (val f 20) (val g 20))) ∧ Below w.heap.size w w' := by
  have A1 : At ((w.alloc (.cells (objL f).toArray 53)).alloc (.cells (idL g).toArray 30)) w.heap.size 0 f := (At.newObj w f 53).below (below_alloc _ _)
  have A2 : At ((w.alloc (.cells (objL f).toArray 53)).alloc (.cells (idL g).toArray 30)) (w.heap.size + 1) 0 g := by
    have := At.new (w.alloc (.cells (objL f).toArray 53)) g 30
    rw [show (w.alloc (.cells (objL f).toArray 53)).heap.size = w.heap.size + 1 from Array.size_push _] at this
    exact this
  have B2 : Hid (Below w.heap.size w ((w.alloc (.cells (objL f).toArray 53)).alloc (.cells (idL g).toArray 30))) := bthen (below_alloc _ _) (below_alloc _ _)
  have L1 : Hid (((w.alloc (.cells (objL f).toArray 53)).alloc (.cells (idL g).toArray 30)).rangeAt w.heap.size 0 (idL f)) := A1.range
  have L2 : Hid (((w.alloc (.cells (objL f).toArray 53)).alloc (.cells (idL g).toArray 30)).rangeAt (w.heap.size + 1) 0 (idL g)) := A2.range
  clear A1 A2
  go_enter Try.func32, Try.ntmps32
  go_wp2_with (first | refine wpList_load_mid rfl 30 _ rfl w.heap.size 0 rfl (idL f) _ L1.out Try.underlying30 rfl (szL30 f) ?_ | refine wpList_load_mid rfl 30 _ rfl (w.heap.size + 1) 0 rfl (idL g) _ L2.out Try.underlying30 rfl (szL30 g) ?_)
  refine (compareIDs_calls f g hf hg _).mono ?_
  rintro e w7 ⟨rfl, hb⟩
  have HB : Hid (Below w.heap.size w w7) := bthen B2.out hb
  clear hb B2 L1 L2
  go_wp2_with fail
  go_ret
  exact ⟨rfl, HB.out⟩

end Go.Proofs.Qxb6614450a.W
