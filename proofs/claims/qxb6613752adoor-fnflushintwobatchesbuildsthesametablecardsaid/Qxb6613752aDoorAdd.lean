import Derived.Test.Qxb6613752aDoorInsert
import Derived.RegionTactic
import Derived.Lib.SliceRun
namespace Go.Proofs.Qxb6613752aDoor.W
open Go.RowKit

theorem info43 : (Tryd.prog.info? 43).map (fun i => (i.zero, i.size, i.bytes)) = some (some (.int .u64 0), 1, 8) := by kernel_rfl

theorem makeWords (L : Nat) (hL : L ≤ 1048576) (w : World) :
    (Instr.makeSlice 57 (.int .i64 (((L : Int) + 63) / 64)) (.int .i64 (((L : Int) + 63) / 64))).run Tryd.prog w = .ok (.slice (some ⟨w.heap.size, 0, none⟩) ((L + 63) / 64) ((L + 63) / 64)) (w.alloc (.cells (madeCells #[.int .u64 0] ((L + 63) / 64)) 43)) := by
  have := run_make_row' (P := Tryd.prog) 57 43 (.int .u64 0) 8 Tryd.underlying57 info43 rfl .i64 .i64 ((L + 63) / 64) (by omega) (by omega) w
  rwa [show (((L + 63) / 64 : Nat) : Int) = ((L : Int) + 63) / 64 by omega] at this

/-- The words behind the mark of offset o. -/
def addW (d : Nat → Int) (o : Nat) : Nat → Int := fun j => if j = o / 64 then bits .or .u64 (d (o / 64)) (IntKind.u64.wrap (2 ^ (o % 64))) else d j

def addD : Option (Nat → Int) → Nat → Nat → Int
  | none, o => addW (fun _ => 0) o
  | some d, o => addW d o

set_option maxHeartbeats 2000000 in
set_option maxRecDepth 100000 in
theorem add_some (db M xb : Nat) (d : Nat → Int) (L o : Nat) (w : World) (hL : L ≤ 1048576) (ho : o < L) (hM : M = (L + 63) / 64)
    (r1 : w.rowIs db 57 1 (fun _ => .slice (some ⟨xb, 0, none⟩) M M)) (r2 : w.rowIs xb 43 M (fun j => .int .u64 (d j))) :
    Calls Tryd.prog 36 #[.pointer (some ⟨db, 0, none⟩), .int .i64 L, .int .i64 o] w fun e w' => e = .returned (.tuple #[]) ∧ w' = (w.setCell ⟨xb, o / 64, none⟩ (.int .u64 (bits .or .u64 (d (o / 64)) (IntKind.u64.wrap (2 ^ (o % 64)))))).drew := by
  have c1 := r1.cell (i := 0) (by decide)
  have c2 := r2.cell (i := o / 64) (by omega)
  have f2 := r2.frozen (o / 64)
  have hb : o / 64 < M := by omega
  clear r1 r2 hM
  have he := fun w a n c n' c' => Lib.run_eql_slice_nil (P := Tryd.prog) w 57 43 a n c n' c' Tryd.underlying57
  go_enter Tryd.func36, Tryd.ntmps36
  go_wp2
  go_region
  all_goals
    go_end0
    exact ⟨rfl, rfl⟩

theorem made_at (M i : Nat) (h : i < M) : (madeCells #[Value.int .u64 0] M)[i]? = some (.int .u64 0) := by
  simp [madeCells, h, Nat.mod_one]

set_option maxHeartbeats 2000000 in
set_option maxRecDepth 100000 in
theorem add_none (db M : Nat) (L o : Nat) (w : World) (hL : L ≤ 1048576) (ho : o < L) (hM : M = (L + 63) / 64)
    (r1 : w.rowIs db 57 1 (fun _ => .slice none 0 0)) :
    Calls Tryd.prog 36 #[.pointer (some ⟨db, 0, none⟩), .int .i64 L, .int .i64 o] w fun e w' => e = .returned (.tuple #[]) ∧ w' = (((w.alloc (.cells (madeCells #[.int .u64 0] M) 43)).setCell ⟨db, 0, none⟩ (.slice (some ⟨w.heap.size, 0, none⟩) M M)).setCell ⟨w.heap.size, o / 64, none⟩ (.int .u64 (bits .or .u64 0 (IntKind.u64.wrap (2 ^ (o % 64)))))).drew := by
  have c1 := r1.cell (i := 0) (by decide)
  have f1 := r1.frozen 0
  have hmk := makeWords L hL
  rw [← hM] at hmk
  have rn := World.rowIs_made w (.int .u64 0) M 43
  have c2 := (rn.setOther (a := ⟨db, 0, none⟩) (by have := r1.lt; show w.heap.size ≠ db; omega) (.slice (some ⟨w.heap.size, 0, none⟩) M M)).cell (i := o / 64) (by omega)
  have f2 := (rn.setOther (a := ⟨db, 0, none⟩) (by have := r1.lt; show w.heap.size ≠ db; omega) (.slice (some ⟨w.heap.size, 0, none⟩) M M)).frozen (o / 64)
  have c1b := cell_alloc (.cells (madeCells #[.int .u64 0] M) 43) c1
  have f1b := (r1.alloc (.cells (madeCells #[.int .u64 0] M) 43)).frozen 0
  have hdb : ¬ db = w.heap.size := by have := r1.lt; omega
  have hb : o / 64 < M := by omega
  clear r1 hM rn
  have he := fun w a n c n' c' => Lib.run_eql_slice_nil (P := Tryd.prog) w 57 43 a n c n' c' Tryd.underlying57
  go_enter Tryd.func36, Tryd.ntmps36
  go_wp2
  go_region
  all_goals
    go_end0
    exact ⟨rfl, rfl⟩

theorem NS.addSome {w : World} {B nb tb db N M xb : Nat} {sv : Value} {bf : Nat → Value} {held touched : Int} {T : Nat → Nat × Nat} {D d : Nat → Int}
    (h : NS w B nb tb db N M sv bf held touched T (some D)) (hx : B ≤ xb) (r1 : w.rowIs db 57 1 (fun _ => .slice (some ⟨xb, 0, none⟩) M M)) (r2 : w.rowIs xb 43 M (fun j => .int .u64 (d j))) (o : Nat) :
    NS (w.setCell ⟨xb, o / 64, none⟩ (.int .u64 (bits .or .u64 (d (o / 64)) (IntKind.u64.wrap (2 ^ (o % 64)))))).drew B nb tb db N M sv bf held touched T (some (addW d o)) := by
  have k : Only xb w (w.setCell ⟨xb, o / 64, none⟩ (.int .u64 (bits .or .u64 (d (o / 64)) (IntKind.u64.wrap (2 ^ (o % 64)))))).drew := ((Only.refl _ _).setCell _ _).drew
  refine ⟨h.bn, h.bt, h.bd, rowIs_only h.set k (rowIs_ne h.set r2 (by decide)), rowIs_only h.tab k (rowIs_ne h.tab r2 (by decide)), xb, hx, rowIs_only r1 k (rowIs_ne r1 r2 (by decide)), ?_⟩
  refine ((r2.set (o / 64) _).drew).congr fun i _ => ?_
  unfold addW
  split <;> rfl

theorem NS.addNone {w : World} {B nb tb db N M : Nat} {sv : Value} {bf : Nat → Value} {held touched : Int} {T : Nat → Nat × Nat}
    (h : NS w B nb tb db N M sv bf held touched T none) (o : Nat) :
    NS (((w.alloc (.cells (madeCells #[.int .u64 0] M) 43)).setCell ⟨db, 0, none⟩ (.slice (some ⟨w.heap.size, 0, none⟩) M M)).setCell ⟨w.heap.size, o / 64, none⟩ (.int .u64 (bits .or .u64 0 (IntKind.u64.wrap (2 ^ (o % 64)))))).drew B nb tb db N M sv bf held touched T (some (addW (fun _ => 0) o)) := by
  have r1 : w.rowIs db 57 1 (fun _ => .slice none 0 0) := h.dup
  have e1 : w.heap.size ≠ db := by have := r1.lt; omega
  have e2 : nb ≠ w.heap.size := by have := h.set.lt; omega
  have e3 : tb ≠ w.heap.size := by have := h.tab.lt; omega
  refine ⟨h.bn, h.bt, h.bd, ?_, ?_, w.heap.size, ?_, ?_, ?_⟩
  · exact (((h.set.alloc _).setOther (a := ⟨db, 0, none⟩) (rowIs_ne h.set r1 (by decide)) _).setOther (a := ⟨w.heap.size, o / 64, none⟩) e2 _).drew
  · exact (((h.tab.alloc _).setOther (a := ⟨db, 0, none⟩) (rowIs_ne h.tab r1 (by decide)) _).setOther (a := ⟨w.heap.size, o / 64, none⟩) e3 _).drew
  · have := h.bd; have := r1.lt; omega
  · refine ((((r1.alloc _).set 0 _).setOther (a := ⟨w.heap.size, o / 64, none⟩) e1.symm _).drew).congr fun i hi => ?_
    obtain rfl : i = 0 := by omega
    rfl
  · refine ((((World.rowIs_made w (.int .u64 0) M 43).setOther (a := ⟨db, 0, none⟩) e1 _).set (o / 64) _).drew).congr fun i _ => ?_
    unfold addW
    split <;> rfl

theorem add_calls (B nb tb db N M : Nat) (sv : Value) (bf : Nat → Value) (held touched : Int) (T : Nat → Nat × Nat) (D : Option (Nat → Int)) (L o : Nat) (w : World)
    (hL : L ≤ 1048576) (ho : o < L) (hM : M = (L + 63) / 64) (h : NS w B nb tb db N M sv bf held touched T D) :
    Calls Tryd.prog 36 #[.pointer (some ⟨db, 0, none⟩), .int .i64 L, .int .i64 o] w fun e w' => e = .returned (.tuple #[]) ∧ Below B w w' ∧ NS w' B nb tb db N M sv bf held touched T (some (addD D o)) := by
  cases D with
  | none =>
    refine (add_none db M L o w hL ho hM h.dup).mono ?_
    rintro e w' ⟨rfl, rfl⟩
    have hd : db < w.heap.size := World.rowIs.lt h.dup
    exact ⟨rfl, ((((Below.refl B w).alloc (by have := h.bd; omega) _).setCell (p := ⟨db, 0, none⟩) h.bd _).setCell (p := ⟨w.heap.size, o / 64, none⟩) (by have := h.bd; show B ≤ w.heap.size; omega) _).drew, h.addNone o⟩
  | some d =>
    obtain ⟨xb, hx, r1, r2⟩ := h.dup
    refine (add_some db M xb d L o w hL ho hM r1 r2).mono ?_
    rintro e w' ⟨rfl, rfl⟩
    exact ⟨rfl, ((Below.refl B w).setCell (p := ⟨xb, o / 64, none⟩) hx _).drew, h.addSome hx r1 r2 o⟩

end Go.Proofs.Qxb6613752aDoor.W
