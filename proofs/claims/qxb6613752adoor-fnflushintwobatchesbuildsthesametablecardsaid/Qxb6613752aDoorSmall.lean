import Derived.Test.Qxb6613752aDoorQuote
import Derived.Laws.IdiomStrings
import Derived.Laws.BytesArg
import Derived.Deep.OwnRows
namespace Go.Proofs.Qxb6613752aDoor.W
open Go.RowKit

theorem ret_bool {a b : Bool} (h : a = b) : Ending.returned (.bool a) = .returned (.bool b) := by rw [h]

/-- The value v is a slice that reads as the bytes l. -/
def Sl (w : World) (v : Value) (l : List UInt8) : Prop :=
  ∃ a c, v = .slice a l.length c ∧ (l = [] ∨ ∃ b o, a = some ⟨b, o, none⟩ ∧ ∀ j (hj : j < l.length), w.cell? ⟨b, o + j, none⟩ = some (.int .u8 (l[j].toNat : Int)))

theorem Sl.conv {w : World} {v : Value} {l : List UInt8} (h : Sl w v l) : (convert 22 9 v).run Tryd.prog w = .ok (.string ⟨l.toArray⟩) w := by
  obtain ⟨a, c, rfl, h⟩ := h
  rcases h with rfl | ⟨b, o, rfl, h⟩
  · cases a with
    | none => exact run_convert_bytes_nil (P := Tryd.prog) w 22 5 Tryd.underlying22 Tryd.underlying5 0 c 9 Tryd.underlying9
    | some x => exact run_convert_bytes_back (P := Tryd.prog) w 22 9 5 x c [] Tryd.underlying22 Tryd.underlying5 Tryd.underlying9 (fun j hj => absurd hj (Nat.not_lt_zero _))
  · refine run_convert_bytes_back (P := Tryd.prog) w 22 9 5 ⟨b, o, none⟩ c l Tryd.underlying22 Tryd.underlying5 Tryd.underlying9 fun j hj => ?_
    rw [← h j hj]
    unfold Addr.add
    split
    · subst j; rfl
    · rfl

set_option maxHeartbeats 1000000 in
theorem bytesEqual_calls (v1 v2 : Value) (l1 l2 : List UInt8) (w : World) (h1 : Sl w v1 l1) (h2 : Sl w v2 l2) :
    Calls Tryd.prog 41 #[v1, v2] w fun e w' => e = .returned (.bool (l1 == l2)) ∧ w' = w := by
  have k1 := h1.conv
  have k2 := h2.conv
  clear h1 h2
  go_enter Tryd.func41, Tryd.ntmps41
  go_wp2
  go_ret
  exact ⟨rfl, rfl⟩

set_option maxHeartbeats 1000000 in
theorem decodedName_calls (a : Option Addr) (n c : Nat) (w : World) :
    Calls Tryd.prog 42 #[.slice a n c, .bool false] w fun e w' => e = .returned (.slice a n c) ∧ w' = w := by
  go_enter Tryd.func42, Tryd.ntmps42
  go_wp2
  go_ret
  exact ⟨rfl, rfl⟩

/-- The slot where the search of a hash begins. -/
def homeOf (N h : Nat) : Nat := h % 4294967296 * N / 4294967296

theorem homeOf_lt (N h : Nat) (hN : 0 < N) : homeOf N h < N := by
  unfold homeOf
  have h1 : h % 4294967296 < 4294967296 := Nat.mod_lt _ (by decide)
  have h2 : h % 4294967296 * N < 4294967296 * N := Nat.mul_lt_mul_of_pos_right h1 hN
  exact Nat.div_lt_of_lt_mul h2

theorem home_eq (N h : Nat) (hN : N ≤ 65536) (hh : h < 18446744073709551616) :
    wrap64 (IntKind.u64.wrap (bits BinOp.and IntKind.u64 (h : Int) 4294967295 * (N : Int)) / 4294967296) = ((homeOf N h : Nat) : Int) := by
  have h1 : h % 4294967296 < 4294967296 := Nat.mod_lt _ (by decide)
  have h2 : h % 4294967296 * N ≤ 4294967296 * 65536 := Nat.mul_le_mul (by omega) hN
  rw [show (4294967295 : Int) = ((4294967295 : Nat) : Int) from rfl, u64_and_nat h _ hh (by decide), nat_mask32, ← Int.natCast_mul, IntKind.wrap_u64]
  unfold homeOf wrap64
  generalize h % 4294967296 * N = t at *
  omega

set_option maxHeartbeats 1000000 in
theorem home_calls (nb tb N h : Nat) (w : World) (hN : N ≤ 65536) (hh : h < 18446744073709551616) (hc : w.cell? ⟨nb, 2, none⟩ = some (.slice (some ⟨tb, 0, none⟩) N N)) :
    Calls Tryd.prog 34 #[.pointer (some ⟨nb, 0, none⟩), .int .u64 h] w fun e w' => e = .returned (.int .i64 (homeOf N h : Nat)) ∧ w' = w := by
  go_enter Tryd.func34, Tryd.ntmps34
  go_wp2
  go_ret
  exact ⟨ret_int (home_eq N h hN hh), rfl⟩

/-- What the set's block holds. -/
def setf (sv : Value) (tb N db : Nat) (bf : Nat → Value) (held touched : Int) (j : Nat) : Value :=
  if j = 0 then sv else if j = 1 then .int .u64 0 else if j = 2 then .slice (some ⟨tb, 0, none⟩) N N else if j = 3 then .pointer (some ⟨db, 0, none⟩)
  else if j < 68 then bf (j - 4) else if j = 68 then .int .i64 held else .int .u8 touched

set_option maxHeartbeats 1000000 in
theorem setNamed_calls (nb i : Nat) (f : Nat → Value) (op : Int) (mk : Bool) (h : Int) (w : World) (hi : i < 16) (hr : w.rowIs nb 64 70 f) (a : Option Addr) (n c : Nat) :
    Calls Tryd.prog 15 #[.pointer (some ⟨nb, 0, none⟩), .int .i64 i, .slice a n c, .int .i32 op, .bool mk, .int .u64 h] w fun e w' => e = .returned (.tuple #[]) ∧
      w' = (((w.setCell ⟨nb, 4 + i * 4, none⟩ (.slice a n c)).setCell ⟨nb, 4 + i * 4 + 1, none⟩ (.int .i32 op)).setCell ⟨nb, 4 + i * 4 + 2, none⟩ (.bool mk)).setCell ⟨nb, 4 + i * 4 + 3, none⟩ (.int .u64 h) := by
  have c0 := hr.cell (i := 4 + i * 4) (by omega)
  have c1 := hr.cell (i := 4 + i * 4 + 1) (by omega)
  have c2 := hr.cell (i := 4 + i * 4 + 2) (by omega)
  have c3 := hr.cell (i := 4 + i * 4 + 3) (by omega)
  have f0 := hr.frozen (4 + i * 4)
  have f1 := hr.frozen (4 + i * 4 + 1)
  have f2 := hr.frozen (4 + i * 4 + 2)
  have f3 := hr.frozen (4 + i * 4 + 3)
  clear hr
  go_enter Tryd.func15, Tryd.ntmps15
  go_wp2
  go_end0
  exact ⟨rfl, rfl⟩

set_option maxHeartbeats 1000000 in
theorem setHeld_calls (nb : Nat) (k : Int) (f : Nat → Value) (w : World) (hr : w.rowIs nb 64 70 f) :
    Calls Tryd.prog 16 #[.pointer (some ⟨nb, 0, none⟩), .int .i64 k] w fun e w' => e = .returned (.tuple #[]) ∧ w' = w.setCell ⟨nb, 68, none⟩ (.int .i64 k) := by
  have h1 := hr.cell (i := 68) (by decide)
  have h2 := hr.frozen 68
  clear hr
  go_enter Tryd.func16, Tryd.ntmps16
  go_wp2
  go_end0
  exact ⟨rfl, rfl⟩

set_option maxHeartbeats 1000000 in
theorem putUint32_calls (g o n c t : Nat) (f : Nat → Value) (m v : Nat) (w : World) (hr : w.rowIs g t m f) (ho : o + 4 ≤ m) (hn : 4 ≤ n) (hv : v < 4294967296) :
    Calls Tryd.prog 40 #[.agg #[], .slice (some ⟨g, o, none⟩) n c, .int .u32 v] w fun e w' => e = .returned (.tuple #[]) ∧
      w' = ((((w.alloc (.cells #[] 71)).setCell ⟨g, o, none⟩ (.int .u8 ((v % 256 : Nat) : Int))).setCell ⟨g, o + 1, none⟩ (.int .u8 ((v / 256 % 256 : Nat) : Int))).setCell ⟨g, o + 2, none⟩ (.int .u8 ((v / 65536 % 256 : Nat) : Int))).setCell ⟨g, o + 3, none⟩ (.int .u8 ((v / 16777216 % 256 : Nat) : Int)) := by
  have hr2 := hr.alloc (.cells #[] 71)
  have c0 := hr2.cell (i := o) (by omega)
  have c1 := hr2.cell (i := o + 1) (by omega)
  have c2 := hr2.cell (i := o + 2) (by omega)
  have c3 := hr2.cell (i := o + 3) (by omega)
  have f0 := hr2.frozen o
  have f1 := hr2.frozen (o + 1)
  have f2 := hr2.frozen (o + 2)
  have f3 := hr2.frozen (o + 3)
  have q0 : 0 < n := by omega
  have q1 : (1 : Int) < (n : Int) := by omega
  have q2 : (2 : Int) < (n : Int) := by omega
  have q3 : (3 : Int) < (n : Int) := by omega
  clear hr hr2
  go_enter Tryd.func40, Tryd.ntmps40
  go_wp2
  go_end0
  refine ⟨rfl, ?_⟩
  rw [show ((v % 256 : Nat) : Int) = (v : Int) % 256 by omega, show ((v / 256 % 256 : Nat) : Int) = (v : Int) / 256 % 256 by omega, show ((v / 65536 % 256 : Nat) : Int) = (v : Int) / 65536 % 256 by omega, show ((v / 16777216 % 256 : Nat) : Int) = (v : Int) / 16777216 by omega]

set_option maxHeartbeats 1000000 in
theorem held_calls (nb : Nat) (k : Int) (w : World) (hc : w.cell? ⟨nb, 68, none⟩ = some (.int .i64 k)) :
    Calls Tryd.prog 18 #[.pointer (some ⟨nb, 0, none⟩)] w fun e w' => e = .returned (.int .i64 k) ∧ w' = w := by
  go_enter Tryd.func18, Tryd.ntmps18
  go_wp2
  go_ret
  exact ⟨rfl, rfl⟩

set_option maxHeartbeats 1000000 in
theorem slotCount_calls (nb N : Nat) (a : Option Addr) (w : World) (hc : w.cell? ⟨nb, 2, none⟩ = some (.slice a N N)) :
    Calls Tryd.prog 19 #[.pointer (some ⟨nb, 0, none⟩)] w fun e w' => e = .returned (.int .i64 N) ∧ w' = w := by
  go_enter Tryd.func19, Tryd.ntmps19
  go_wp2
  go_ret
  exact ⟨rfl, rfl⟩

set_option maxHeartbeats 1000000 in
theorem slotTag_calls (nb tb N i : Nat) (t : Int) (w : World) (hi : i < N) (hc : w.cell? ⟨nb, 2, none⟩ = some (.slice (some ⟨tb, 0, none⟩) N N)) (ht : w.cell? ⟨tb, i * 5, none⟩ = some (.int .u8 t)) :
    Calls Tryd.prog 21 #[.pointer (some ⟨nb, 0, none⟩), .int .i64 i] w fun e w' => e = .returned (.int .u8 t) ∧ w' = w := by
  go_enter Tryd.func21, Tryd.ntmps21
  go_wp2
  go_ret
  exact ⟨rfl, rfl⟩

set_option maxHeartbeats 1000000 in
theorem slotName_calls (nb tb N i : Nat) (b0 b1 b2 b3 : Int) (w : World) (hi : i < N) (hc : w.cell? ⟨nb, 2, none⟩ = some (.slice (some ⟨tb, 0, none⟩) N N))
    (h0 : w.cell? ⟨tb, i * 5 + 1, none⟩ = some (.int .u8 b0)) (h1 : w.cell? ⟨tb, i * 5 + 1 + 1, none⟩ = some (.int .u8 b1)) (h2 : w.cell? ⟨tb, i * 5 + 1 + 2, none⟩ = some (.int .u8 b2)) (h3 : w.cell? ⟨tb, i * 5 + 1 + 3, none⟩ = some (.int .u8 b3)) :
    Calls Tryd.prog 20 #[.pointer (some ⟨nb, 0, none⟩), .int .i64 i] w fun e w' => e = .returned (.agg #[.int .u8 b0, .int .u8 b1, .int .u8 b2, .int .u8 b3]) ∧ Below w.heap.size w w' := by
  have d := fun o => cell_alloc o hc
  have d0 := fun o => cell_alloc o h0
  have d1 := fun o => cell_alloc o h1
  have d2 := fun o => cell_alloc o h2
  have d3 := fun o => cell_alloc o h3
  clear hc h0 h1 h2 h3
  go_enter Tryd.func20, Tryd.ntmps20
  go_wp2
  go_outline
  exact bodyPost_ret (v := .agg #[.int .u8 b0, .int .u8 b1, .int .u8 b2, .int .u8 b3]) (by simp [results, Tryd.results20, go_sem]) rfl ⟨rfl, (Below.refl _ _).alloc (Nat.le_refl _) _⟩

set_option maxHeartbeats 1000000 in
theorem dupWords_calls (nb db : Nat) (a : Option Addr) (n c : Nat) (w : World) (hc : w.cell? ⟨nb, 3, none⟩ = some (.pointer (some ⟨db, 0, none⟩))) (hd : w.cell? ⟨db, 0, none⟩ = some (.slice a n c)) :
    Calls Tryd.prog 22 #[.pointer (some ⟨nb, 0, none⟩)] w fun e w' => e = .returned (.slice a n c) ∧ w' = w := by
  go_enter Tryd.func22, Tryd.ntmps22
  go_wp2
  go_ret
  exact ⟨rfl, rfl⟩

set_option maxHeartbeats 1000000 in
set_option maxRecDepth 100000 in
theorem slotValue_calls (b0 b1 b2 b3 : Nat) (w : World) (h0 : b0 < 256) (h1 : b1 < 256) (h2 : b2 < 256) (h3 : b3 < 256) :
    Calls Tryd.prog 29 #[.agg #[.int .u8 b0, .int .u8 b1, .int .u8 b2, .int .u8 b3]] w fun e w' => e = .returned (.int .u32 ((b0 + 256 * (b1 + 256 * (b2 + 256 * b3)) : Nat) : Int)) ∧ Below w.heap.size w w' := by
  go_enter Tryd.func29, Tryd.ntmps29
  go_wp2
  go_ret
  refine ⟨ret_int ?_, (Below.refl _ _).alloc (Nat.le_refl _) _⟩
  simp (disch := omega) only [u32_or8, u32_or16, u32_or24]
  push_cast
  omega

theorem info66 : (Tryd.prog.info? 66).map (fun i => (i.zero, i.size, i.bytes)) = some (some (.agg #[.int .u8 0, .int .u8 0, .int .u8 0, .int .u8 0, .int .u8 0]), 5, 5) := by kernel_rfl

/-- The cells of an empty table. -/
def noSlots (N : Nat) : Array Value := madeCells #[.int .u8 0, .int .u8 0, .int .u8 0, .int .u8 0, .int .u8 0] (N * 5)

theorem makeSlots (N : Nat) (hN : N ≤ 65536) (w : World) :
    (Instr.makeSlice 55 (.int .i64 (N : Int)) (.int .i64 (N : Int))).run Tryd.prog w = .ok (.slice (some ⟨w.heap.size, 0, none⟩) N N) (w.alloc (.cells (noSlots N) 66)) := by
  obtain ⟨i, hi, hzz⟩ := Option.map_eq_some_iff.1 info66
  simp only [Prod.mk.injEq] at hzz
  obtain ⟨hz, hs, hb⟩ := hzz
  have hr := run_make (P := Tryd.prog) w 55 66 i _ Tryd.underlying55 hi hz .i64 .i64 N N (by omega) (Int.le_refl _) (by rw [hb]; omega) (by omega)
  rw [hs] at hr
  simpa [noSlots, Value.cells] using hr

set_option maxRecDepth 100000 in
theorem zero64 (w : World) : (zeroValue 64).run Tryd.prog w = .ok (.agg #[Value.slice none 0 0, Value.int .u64 0, Value.slice none 0 0, Value.pointer none, Value.slice none 0 0, Value.int .i32 0, Value.bool false, Value.int .u64 0, Value.slice none 0 0, Value.int .i32 0, Value.bool false, Value.int .u64 0, Value.slice none 0 0, Value.int .i32 0, Value.bool false, Value.int .u64 0, Value.slice none 0 0, Value.int .i32 0, Value.bool false, Value.int .u64 0, Value.slice none 0 0, Value.int .i32 0, Value.bool false, Value.int .u64 0, Value.slice none 0 0, Value.int .i32 0, Value.bool false, Value.int .u64 0, Value.slice none 0 0, Value.int .i32 0, Value.bool false, Value.int .u64 0, Value.slice none 0 0, Value.int .i32 0, Value.bool false, Value.int .u64 0, Value.slice none 0 0, Value.int .i32 0, Value.bool false, Value.int .u64 0, Value.slice none 0 0, Value.int .i32 0, Value.bool false, Value.int .u64 0, Value.slice none 0 0, Value.int .i32 0, Value.bool false, Value.int .u64 0, Value.slice none 0 0, Value.int .i32 0, Value.bool false, Value.int .u64 0, Value.slice none 0 0, Value.int .i32 0, Value.bool false, Value.int .u64 0, Value.slice none 0 0, Value.int .i32 0, Value.bool false, Value.int .u64 0, Value.slice none 0 0, Value.int .i32 0, Value.bool false, Value.int .u64 0, Value.slice none 0 0, Value.int .i32 0, Value.bool false, Value.int .u64 0, Value.int .i64 0, Value.int .u8 0]) w := by kernel_rfl

/-- What the table's block holds: of each slot the tag and the four bytes of its number. -/
def tabf (T : Nat → Nat × Nat) (m : Nat) : Value :=
  if m % 5 = 0 then .int .u8 ((T (m / 5)).1 : Nat) else .int .u8 ((((T (m / 5)).2 / 256 ^ (m % 5 - 1)) % 256 : Nat) : Int)

/-- The set of the offsets that are marked: nil, or a row of M words. -/
def Dup (w : World) (B db M : Nat) : Option (Nat → Int) → Prop
  | none => w.rowIs db 57 1 (fun _ => .slice none 0 0)
  | some d => ∃ xb, B ≤ xb ∧ w.rowIs db 57 1 (fun _ => .slice (some ⟨xb, 0, none⟩) M M) ∧ w.rowIs xb 43 M (fun j => .int .u64 (d j))

/-- A set of names in memory: its own block nb, its table tb, its marks db, all from block B on. -/
structure NS (w : World) (B nb tb db N M : Nat) (sv : Value) (bf : Nat → Value) (held touched : Int) (T : Nat → Nat × Nat) (D : Option (Nat → Int)) : Prop where
  bn : B ≤ nb
  bt : B ≤ tb
  bd : B ≤ db
  set : w.rowIs nb 64 70 (setf sv tb N db bf held touched)
  tab : w.rowIs tb 66 (N * 5) (tabf T)
  dup : Dup w B db M D

theorem rowIs_below {w w' : World} {b t n : Nat} {f : Nat → Value} {B : Nat} (h : w.rowIs b t n f) (k : Below B w w') (hb : b < B) : w'.rowIs b t n f := h.of_block (k.block b hb)

theorem Dup.below {w w' : World} {B db M : Nat} {D : Option (Nat → Int)} (h : Dup w B db M D) (k : Below w.heap.size w w') : Dup w' B db M D := by
  cases D with
  | none => exact rowIs_below h k h.lt
  | some d =>
    obtain ⟨xb, hx, h1, h2⟩ := h
    exact ⟨xb, hx, rowIs_below h1 k h1.lt, rowIs_below h2 k h2.lt⟩

theorem NS.below {w w' : World} {B nb tb db N M : Nat} {sv : Value} {bf : Nat → Value} {held touched : Int} {T : Nat → Nat × Nat} {D : Option (Nat → Int)}
    (h : NS w B nb tb db N M sv bf held touched T D) (k : Below w.heap.size w w') : NS w' B nb tb db N M sv bf held touched T D :=
  ⟨h.bn, h.bt, h.bd, rowIs_below h.set k h.set.lt, rowIs_below h.tab k h.tab.lt, h.dup.below k⟩

/-- Two rows of two types are two blocks. -/
theorem rowIs_ne {w : World} {b b' t t' n n' : Nat} {f f' : Nat → Value} (h : w.rowIs b t n f) (h' : w.rowIs b' t' n' f') (ht : t ≠ t') : b ≠ b' := by
  rintro rfl
  obtain ⟨c, hc, _⟩ := h
  obtain ⟨c', hc', _⟩ := h'
  rw [hc] at hc'
  injection hc' with e
  injection e with _ e _
  exact ht e

theorem setf_of (A : Array Value) (sv : Value) (tb N db : Nat) (held touched : Int) (hs : A.size = 70) (h0 : A[0]? = some sv) (h1 : A[1]? = some (.int .u64 0)) (h2 : A[2]? = some (.slice (some ⟨tb, 0, none⟩) N N))
    (h3 : A[3]? = some (.pointer (some ⟨db, 0, none⟩))) (h68 : A[68]? = some (.int .i64 held)) (h69 : A[69]? = some (.int .u8 touched)) :
    ∀ i, i < 70 → A[i]? = some (setf sv tb N db (fun j => A.getD (j + 4) default) held touched i) := by
  intro i hi
  unfold setf
  by_cases e0 : i = 0
  · subst e0; exact h0
  by_cases e1 : i = 1
  · subst e1; exact h1
  by_cases e2 : i = 2
  · subst e2; exact h2
  by_cases e3 : i = 3
  · subst e3; exact h3
  rw [if_neg e0, if_neg e1, if_neg e2, if_neg e3]
  by_cases e4 : i < 68
  · rw [if_pos e4]
    have : i - 4 + 4 = i := by omega
    simp only [this]
    rw [Array.getD_eq_getD_getElem?, Array.getElem?_eq_getElem (by omega)]
    rfl
  · rw [if_neg e4]
    by_cases e5 : i = 68
    · subst e5; exact h68
    · obtain rfl : i = 69 := by omega
      exact h69

theorem noSlots_size (N : Nat) : (noSlots N).size = N * 5 := size_madeCells _ _

theorem noSlots_at (N : Nat) : ∀ i, i < N * 5 → (noSlots N)[i]? = some (tabf (fun _ => (0, 0)) i) := by
  intro i hi
  have e : tabf (fun _ => (0, 0)) i = .int .u8 0 := by
    unfold tabf
    split <;> simp
  rw [e]
  simp only [noSlots, madeCells]
  have hm : i % 5 < 5 := Nat.mod_lt _ (by decide)
  generalize hj : i % 5 = j at hm
  have : j = 0 ∨ j = 1 ∨ j = 2 ∨ j = 3 ∨ j = 4 := by omega
  rcases this with h | h | h | h | h <;> subst h <;> simp [hi, hj]

theorem NS_new (w : World) (N M : Nat) (sv : Value) (A : Array Value) (hs : A.size = 70) (h0 : A[0]? = some sv) (h1 : A[1]? = some (.int .u64 0)) (h2 : A[2]? = some (.slice (some ⟨w.heap.size, 0, none⟩) N N))
    (h3 : A[3]? = some (.pointer (some ⟨w.heap.size + 1, 0, none⟩))) (h68 : A[68]? = some (.int .i64 0)) (h69 : A[69]? = some (.int .u8 0)) :
    NS (((w.alloc (Obj.cells (noSlots N) 66)).alloc (Obj.cells #[Value.slice none 0 0] 57)).alloc (Obj.cells A 64)) w.heap.size (w.heap.size + 2) w.heap.size (w.heap.size + 1) N M sv (fun j => A.getD (j + 4) default) 0 0 (fun _ => (0, 0)) none := by
  refine ⟨by omega, Nat.le_refl _, by omega, ?_, ?_, ?_⟩
  · have h := World.rowIs_alloc ((w.alloc (Obj.cells (noSlots N) 66)).alloc (Obj.cells #[Value.slice none 0 0] 57)) A 64 _ (fun i hi => setf_of A sv w.heap.size N (w.heap.size + 1) 0 0 hs h0 h1 h2 h3 h68 h69 i (hs ▸ hi))
    rw [hs] at h
    simpa using h
  · have h := ((World.rowIs_alloc w (noSlots N) 66 (tabf fun _ => (0, 0)) (by rw [noSlots_size]; exact noSlots_at N)).alloc (Obj.cells #[Value.slice none 0 0] 57)).alloc (Obj.cells A 64)
    rw [noSlots_size] at h
    exact h
  · have h := (World.rowIs_alloc (w.alloc (Obj.cells (noSlots N) 66)) #[Value.slice none 0 0] 57 (fun _ => .slice none 0 0) (fun i hi => by
      obtain rfl : i = 0 := by simpa using hi
      rfl)).alloc (Obj.cells A 64)
    show World.rowIs _ _ _ _ _
    simpa using h

set_option maxHeartbeats 1000000 in
set_option maxRecDepth 100000 in
theorem newNameSet_calls (N M : Nat) (a : Option Addr) (n c : Nat) (w : World) (hN : N ≤ 65536) :
    Calls Tryd.prog 14 #[.slice a n c, .int .i64 N] w fun e w' => e = .returned (.pointer (some ⟨w.heap.size + 2, 0, none⟩)) ∧ Below w.heap.size w w' ∧
      ∃ bf, NS w' w.heap.size (w.heap.size + 2) w.heap.size (w.heap.size + 1) N M (.slice a n c) bf 0 0 (fun _ => (0, 0)) none := by
  have hmk := makeSlots N hN
  have hz := zero64
  go_enter Tryd.func14, Tryd.ntmps14
  go_wp2
  go_ret
  exact ⟨rfl, (((Below.refl _ _).alloc (Nat.le_refl _) _).alloc (by simp) _).alloc (by simp; omega) _, _, NS_new w N M (.slice a n c) _ rfl rfl rfl rfl rfl rfl rfl⟩

end Go.Proofs.Qxb6613752aDoor.W
