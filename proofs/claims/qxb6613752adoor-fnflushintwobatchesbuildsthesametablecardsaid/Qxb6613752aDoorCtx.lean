import Derived.Test.Qxb6613752aDoorLaw
import Derived.ChangeKeysEq
namespace Go.Proofs.Qxb6613752aDoor.W
open Go.RowKit

/-- The batch with entry i written. -/
def upd (bf : Nat → Value) (i : Nat) (v0 v1 v2 v3 : Value) (j : Nat) : Value :=
  if j = i * 4 + 3 then v3 else if j = i * 4 + 2 then v2 else if j = i * 4 + 1 then v1 else if j = i * 4 then v0 else bf j

theorem setf_upd (sv : Value) (tb N db : Nat) (bf : Nat → Value) (held touched : Int) (i : Nat) (hi : i < 16) (v0 v1 v2 v3 : Value) (j : Nat) :
    (if j = 4 + i * 4 + 3 then v3 else if j = 4 + i * 4 + 2 then v2 else if j = 4 + i * 4 + 1 then v1 else if j = 4 + i * 4 then v0 else setf sv tb N db bf held touched j) = setf sv tb N db (upd bf i v0 v1 v2 v3) held touched j := by
  by_cases e3 : j = 4 + i * 4 + 3
  · rw [if_pos e3, show j = 4 + (i * 4 + 3) by omega, setf_batch _ _ _ _ _ _ _ _ (by omega)]; simp [upd]
  rw [if_neg e3]
  by_cases e2 : j = 4 + i * 4 + 2
  · rw [if_pos e2, show j = 4 + (i * 4 + 2) by omega, setf_batch _ _ _ _ _ _ _ _ (by omega)]; simp [upd]
  rw [if_neg e2]
  by_cases e1 : j = 4 + i * 4 + 1
  · rw [if_pos e1, show j = 4 + (i * 4 + 1) by omega, setf_batch _ _ _ _ _ _ _ _ (by omega)]; simp [upd]
  rw [if_neg e1]
  by_cases e0 : j = 4 + i * 4
  · rw [if_pos e0, e0, setf_batch _ _ _ _ _ _ _ _ (by omega)]; simp [upd]
  rw [if_neg e0]
  unfold setf
  by_cases h : j < 4
  · have : j = 0 ∨ j = 1 ∨ j = 2 ∨ j = 3 := by omega
    rcases this with h | h | h | h <;> simp [h]
  · have u : upd bf i v0 v1 v2 v3 (j - 4) = bf (j - 4) := by
      unfold upd
      rw [if_neg (by omega), if_neg (by omega), if_neg (by omega), if_neg (by omega)]
    rw [u]

theorem setNamed_NS (B nb tb db N M : Nat) (sv : Value) (bf : Nat → Value) (held touched : Int) (T : Nat → Nat × Nat) (D : Option (Nat → Int)) (i : Nat) (a : Option Addr) (n c : Nat) (op : Int) (mk : Bool) (h : Int) (w : World)
    (hns : NS w B nb tb db N M sv bf held touched T D) (hi : i < 16) :
    Calls Tryd.prog 15 #[.pointer (some ⟨nb, 0, none⟩), .int .i64 i, .slice a n c, .int .i32 op, .bool mk, .int .u64 h] w fun e w' => e = .returned (.tuple #[]) ∧ Below B w w' ∧
      NS w' B nb tb db N M sv (upd bf i (.slice a n c) (.int .i32 op) (.bool mk) (.int .u64 h)) held touched T D := by
  refine (setNamed_calls nb i _ op mk h w hi hns.set a n c).mono ?_
  rintro e w' ⟨rfl, rfl⟩
  refine ⟨rfl, ((((Below.refl B w).setCell (p := ⟨nb, 4 + i * 4, none⟩) hns.bn _).setCell (p := ⟨nb, 4 + i * 4 + 1, none⟩) hns.bn _).setCell (p := ⟨nb, 4 + i * 4 + 2, none⟩) hns.bn _).setCell (p := ⟨nb, 4 + i * 4 + 3, none⟩) hns.bn _, ?_⟩
  refine hns.nbOnly (((((Only.refl _ _).setCell _ _).setCell _ _).setCell _ _).setCell _ _) ?_
  exact ((((hns.set.set (4 + i * 4) _).set (4 + i * 4 + 1) _).set (4 + i * 4 + 2) _).set (4 + i * 4 + 3) _).congr fun j _ => setf_upd sv tb N db bf held touched i hi _ _ _ _ j

theorem setHeld_NS (B nb tb db N M : Nat) (sv : Value) (bf : Nat → Value) (held touched : Int) (T : Nat → Nat × Nat) (D : Option (Nat → Int)) (k : Int) (w : World)
    (hns : NS w B nb tb db N M sv bf held touched T D) :
    Calls Tryd.prog 16 #[.pointer (some ⟨nb, 0, none⟩), .int .i64 k] w fun e w' => e = .returned (.tuple #[]) ∧ Below B w w' ∧ NS w' B nb tb db N M sv bf k touched T D := by
  refine (setHeld_calls nb k _ w hns.set).mono ?_
  rintro e w' ⟨rfl, rfl⟩
  exact ⟨rfl, (Below.refl B w).setCell (p := ⟨nb, 68, none⟩) hns.bn _, hns.setHeld k⟩

/-- The first k entries of the batch. -/
def Laid (bf : Nat → Value) (k : Nat) (E : Nat → Ent) : Prop :=
  ∀ i, i < k → bf (i * 4) = .slice (E i).a (E i).n (E i).c ∧ bf (i * 4 + 1) = .int .i32 (E i).o ∧ bf (i * 4 + 2) = .bool (E i).mark ∧ bf (i * 4 + 3) = .int .u64 (E i).h

theorem Laid.next {bf : Nat → Value} {k : Nat} {E : Nat → Ent} (h : Laid bf k E) : Laid (upd bf k (.slice (E k).a (E k).n (E k).c) (.int .i32 (E k).o) (.bool (E k).mark) (.int .u64 (E k).h)) (k + 1) E := by
  intro i hi
  by_cases e : i = k
  · subst e
    simp [upd]
  · have := h i (by omega)
    unfold upd
    refine ⟨?_, ?_, ?_, ?_⟩
    · rw [if_neg (by omega), if_neg (by omega), if_neg (by omega), if_neg (by omega)]; exact this.1
    · rw [if_neg (by omega), if_neg (by omega), if_neg (by omega), if_neg (by omega)]; exact this.2.1
    · rw [if_neg (by omega), if_neg (by omega), if_neg (by omega), if_neg (by omega)]; exact this.2.2.1
    · rw [if_neg (by omega), if_neg (by omega), if_neg (by omega), if_neg (by omega)]; exact this.2.2.2

/-- A row in memory below block B. -/
def RowB (B : Nat) (w : World) (a : Option Addr) (n : Nat) (f : Nat → Value) : Prop := 0 < n → ∃ b o, a = some ⟨b, o, none⟩ ∧ b < B ∧ ∀ i, i < n → w.cell? ⟨b, o + i, none⟩ = some (f i)

theorem Row.rowB {w : World} {a : Option Addr} {n : Nat} {f : Nat → Value} (h : Row w a n f) {B : Nat} (hB : w.heap.size ≤ B) : RowB B w a n f := fun hn => by
  obtain ⟨b, o, rfl, hc⟩ := h hn
  exact ⟨b, o, rfl, Nat.lt_of_lt_of_le (cell_lt (hc 0 hn)) hB, hc⟩

theorem RowB.below {B : Nat} {w w' : World} {a : Option Addr} {n : Nat} {f : Nat → Value} (h : RowB B w a n f) (k : Below B w w') : RowB B w' a n f := fun hn => by
  obtain ⟨b, o, rfl, hb, hc⟩ := h hn
  exact ⟨b, o, rfl, hb, fun i hi => (k.cell (p := ⟨b, o + i, none⟩) hb).trans (hc i hi)⟩

theorem RowB.mono {B B' : Nat} {w : World} {a : Option Addr} {n : Nat} {f : Nat → Value} (h : RowB B w a n f) (hB : B ≤ B') : RowB B' w a n f := fun hn => by
  obtain ⟨b, o, rfl, hb, hc⟩ := h hn
  exact ⟨b, o, rfl, by omega, hc⟩

theorem SlB.mono {B B' : Nat} {w : World} {v : Value} {l : List UInt8} (h : SlB B w v l) (hB : B ≤ B') : SlB B' w v l := by
  obtain ⟨a, c, rfl, h⟩ := h
  refine ⟨a, c, rfl, ?_⟩
  rcases h with rfl | ⟨b, o, rfl, hb, h⟩
  · exact .inl rfl
  · exact .inr ⟨b, o, rfl, by omega, h⟩

/-- What is only read while the sets are built: the table of the library, the names that are handed on, their opens, marks and hashes. -/
structure Ctx (B : Nat) (w : World) (ag a2 a3 a4 : Option Addr) (n : Nat) (E : Nat → Ent) : Prop where
  tab : Tab w
  B1 : 1 < B
  row : RowB B w ag n (fun i => .slice (E i).a (E i).n (E i).c)
  sl : ∀ i, i < n → SlB B w (.slice (E i).a (E i).n (E i).c) (E i).l
  op : RowB B w a2 n (fun i => .int .i32 (E i).o)
  mks : RowB B w a3 n (fun i => .bool (E i).mark)
  h : RowB B w a4 n (fun i => .int .u64 (E i).h)

theorem Ctx.below {B : Nat} {w w' : World} {ag a2 a3 a4 : Option Addr} {n : Nat} {E : Nat → Ent} (h : Ctx B w ag a2 a3 a4 n E) (k : Below B w w') : Ctx B w' ag a2 a3 a4 n E :=
  ⟨h.tab.below k h.B1, h.B1, h.row.below k, fun i hi => (h.sl i hi).below k, h.op.below k, h.mks.below k, h.h.below k⟩

theorem Ctx.mono {B B' : Nat} {w : World} {ag a2 a3 a4 : Option Addr} {n : Nat} {E : Nat → Ent} (h : Ctx B w ag a2 a3 a4 n E) (hB : B ≤ B') : Ctx B' w ag a2 a3 a4 n E :=
  ⟨h.tab, by have := h.B1; omega, h.row.mono hB, fun i hi => (h.sl i hi).mono hB, h.op.mono hB, h.mks.mono hB, h.h.mono hB⟩

/-- The copy of a list of names, nil or not. -/
theorem cloneNames_calls (a : Option Addr) (n c : Nat) (A : Nat → Option Addr) (Ln C : Nat → Nat) (l : Nat → List UInt8) (w : World) (hn : n ≤ 65536) (h : Nms w a n A Ln C l) (hnil : a = none → n = 0 ∧ c = 0)
    (hni : ∀ i, i < n → A i = none → Ln i = 0 ∧ C i = 0) (hl : ∀ i, i < n → Ln i ≤ 1048576) :
    Calls Tryd.prog 13 #[.slice a n c] w fun e w' => ∃ a' A', e = .returned (.slice a' n n) ∧ Below w.heap.size w w' ∧ Nms w' a' n A' Ln Ln l ∧ (a' = none → n = 0 ∧ n = 0) ∧ ∀ i, i < n → A' i = none → Ln i = 0 ∧ Ln i = 0 := by
  cases a with
  | none =>
    obtain ⟨rfl, rfl⟩ := hnil rfl
    refine (cloneNames_none w).mono ?_
    rintro e w' ⟨rfl, rfl⟩
    exact ⟨none, A, rfl, Below.refl _ _, ⟨fun h => absurd h (Nat.lt_irrefl _), fun i hi => absurd hi (Nat.not_lt_zero _), fun i hi => absurd hi (Nat.not_lt_zero _)⟩, fun _ => ⟨rfl, rfl⟩, fun i hi => absurd hi (Nat.not_lt_zero _)⟩
  | some x =>
    refine (cloneNames_some x n c A Ln C l w hn h hni hl).mono ?_
    rintro e w' ⟨rfl, hb, A', hn', hi'⟩
    exact ⟨_, A', rfl, hb, hn', fun e => by simp at e, fun i hi e => ⟨hi' i hi e, hi' i hi e⟩⟩

theorem Row.below {w w' : World} {a : Option Addr} {n : Nat} {f : Nat → Value} (h : Row w a n f) (k : Below w.heap.size w w') : Row w' a n f := fun hn => by
  obtain ⟨b, o, rfl, hc⟩ := h hn
  exact ⟨b, o, rfl, fun i hi => (k.cell (p := ⟨b, o + i, none⟩) (cell_lt (hc i hi))).trans (hc i hi)⟩

theorem Nms.below {w w' : World} {a : Option Addr} {n : Nat} {A : Nat → Option Addr} {Ln C : Nat → Nat} {l : Nat → List UInt8} (h : Nms w a n A Ln C l) (k : Below w.heap.size w w') : Nms w' a n A Ln C l :=
  ⟨h.row.below k, fun i hi => (h.sl i hi).below k, h.le⟩

/-- The flush of a batch: what main needs of it. -/
theorem flush_at (B nb tb db N M L m g : Nat) (z : Nat → Nat) (bf : Nat → Value) (touched : Int) (T : Nat → Nat × Nat) (D : Option (Nat → Int)) (nm : Nat → List UInt8) (E : Nat → Ent) (sv : Value) (w : World)
    (hN0 : 0 < N) (hN : N ≤ 65536) (hL : L ≤ 1048576) (hm : m ≤ 16) (hM : M = (L + 63) / 64) (hT : Tab w) (hB : 1 < B)
    (hns : NS w B nb tb db N M sv bf m touched T D) (hsv : 0 < m → sv = .slice (some ⟨g, 0, none⟩) L L ∧ Bytes w g 0 L z ∧ g < B)
    (hsl : ∀ i, i < m → SlB B w (.slice (E i).a (E i).n (E i).c) (E i).l) (ho : ∀ i, i < m → (E i).o < L) (hh : ∀ i, i < m → (E i).h < 18446744073709551616) (hlaid : Laid bf m E)
    (hfit : ∀ k, k < m → Fit N L z nm (run N nm (T, D) E k).1 (E k).h) :
    Calls Tryd.prog 17 #[.pointer (some ⟨nb, 0, none⟩)] w fun e w' => e = .returned (.tuple #[]) ∧ Below B w w' ∧ ∃ touched', NS w' B nb tb db N M sv bf 0 touched' (run N nm (T, D) E m).1 (run N nm (T, D) E m).2 :=
  zzflush_calls nb w _ (flush_calls B nb tb db N M g L m z bf touched T D nm E sv w hN0 hN hL hm hM hT hB hns hsv
    ⟨hsl, ho, hh, fun i hi => (hlaid i hi).1, fun i hi => (hlaid i hi).2.1, fun i hi => (hlaid i hi).2.2.1, fun i hi => (hlaid i hi).2.2.2⟩ hfit)

theorem closes_of {n0 : Nat} {z : Nat → Nat} {l : List UInt8} {op : Int} (h : FitAt n0 z l op) : op = (op.toNat : Int) ∧ Closes z n0 op.toNat l := by
  obtain ⟨o, rfl, h1, _, h3, h4⟩ := h
  rw [Int.toNat_natCast]
  refine ⟨rfl, h1, fun j hj => ?_, h3⟩
  have := h4 j hj
  rw [getD_ne l j hj] at this
  exact ⟨this.2.2, this.1, this.2.1⟩

theorem plain_of {n0 n1 n2 n3 n4 NN : Nat} {z : Nat → Nat} {l : Nat → List UInt8} {op h : Nat → Int} (hf : Fits n0 n1 n2 n3 n4 (NN : Int) z l op h) (h0 : n0 ≤ 1048576)
    (hb : ∀ i, i < n4 → 0 ≤ h i ∧ h i < 18446744073709551616) (A : Nat → Option Addr) (Ln : Nat → Nat) (mk : Nat → Bool) :
    Plain NN n0 n1 z (fun i => ⟨A i, Ln i, Ln i, l i, (op i).toNat, mk i, (h i).toNat⟩) := by
  have e4 := hf.e4
  refine ⟨by have := hf.N1; omega, h0, fun k hk => (closes_of (hf.fit k hk)).2, fun k hk => ?_, fun k hk j hj e => ?_⟩
  · have := hb k (by omega)
    show (h k).toNat < _
    omega
  · have := hf.hash k hk j hj e
    show (h j).toNat = (h k).toNat
    rw [this]

theorem bytes_of {w : World} {g n c : Nat} {sl : List UInt8} (h : Sl w (.slice (some ⟨g, 0, none⟩) n c) sl) : Bytes w g 0 n (fun i => (sl.getD i 0).toNat) := by
  obtain ⟨_, hr⟩ := h.row
  intro i hi
  obtain ⟨b, o, e, hc⟩ := hr (by omega)
  injection e with e
  injection e with e1 e2
  subst e1 e2
  exact ⟨UInt8.toNat_lt _, hc i hi⟩

theorem Row.cut {w : World} {a : Option Addr} {n m : Nat} {f g : Nat → Value} (h : Row w a n f) (hm : m ≤ n) (e : ∀ i, i < m → f i = g i) : Row w a m g := fun hm0 => by
  obtain ⟨b, o, rfl, hc⟩ := h (by omega)
  exact ⟨b, o, rfl, fun i hi => by rw [hc i (by omega), e i hi]⟩

theorem ctx_of {n0 n1 n2 n3 n4 NN : Nat} {z : Nat → Nat} {l : Nat → List UInt8} {op h : Nat → Int} {mk : Nat → Bool} {w : World} {ag a2 a3 a4 : Option Addr} {Ag : Nat → Option Addr} {Ln : Nat → Nat}
    (hf : Fits n0 n1 n2 n3 n4 (NN : Int) z l op h) (hb : ∀ i, i < n4 → 0 ≤ h i ∧ h i < 18446744073709551616) (hT : Tab w) (hg : Nms w ag n1 Ag Ln Ln l)
    (h2 : Row w a2 n2 (fun i => .int .i32 (op i))) (h3 : Row w a3 n3 (fun i => .bool (mk i))) (h4 : Row w a4 n4 (fun i => .int .u64 (h i))) :
    Ctx w.heap.size w ag a2 a3 a4 n1 (fun i => ⟨Ag i, Ln i, Ln i, l i, (op i).toNat, mk i, (h i).toNat⟩) := by
  have e2 := hf.e2
  have e3 := hf.e3
  have e4 := hf.e4
  refine ⟨hT, hT.lt, hg.row.rowB (Nat.le_refl _), fun i hi => (hg.sl i hi).slB (Nat.le_refl _), (h2.cut (by omega) fun i hi => ?_).rowB (Nat.le_refl _), (h3.cut (by omega) fun i _ => rfl).rowB (Nat.le_refl _), (h4.cut (by omega) fun i hi => ?_).rowB (Nat.le_refl _)⟩
  · show Value.int .i32 (op i) = .int .i32 ((op i).toNat : Int)
    rw [← (closes_of (hf.fit i hi)).1]
  · show Value.int .u64 (h i) = .int .u64 ((h i).toNat : Int)
    have := hb i (by omega)
    rw [show ((h i).toNat : Int) = h i by omega]

/-- A set whose batch is being filled: q names are in. -/
def Filling (B : Nat) (wb wr : World) (nb tb db N M : Nat) (sv : Value) (touched : Int) (T : Nat → Nat × Nat) (D : Option (Nat → Int)) (q : Nat) (E : Nat → Ent) : Prop :=
  Below B wb wr ∧ ∃ bf, NS wr B nb tb db N M sv bf 0 touched T D ∧ Laid bf q E

theorem NS.drew {w : World} {B nb tb db N M : Nat} {sv : Value} {bf : Nat → Value} {held touched : Int} {T : Nat → Nat × Nat} {D : Option (Nat → Int)}
    (h : NS w B nb tb db N M sv bf held touched T D) : NS w.drew B nb tb db N M sv bf held touched T D := h.below ((Below.refl _ _).drew)

theorem filling_next {B : Nat} {wb w : World} {nb tb db N M : Nat} {sv : Value} {touched : Int} {T : Nat → Nat × Nat} {D : Option (Nat → Int)} {q : Nat} {E : Nat → Ent}
    (h : Filling B wb w nb tb db N M sv touched T D q E) (hq : q < 16) :
    Calls Tryd.prog 15 #[.pointer (some ⟨nb, 0, none⟩), .int .i64 q, .slice (E q).a (E q).n (E q).c, .int .i32 (E q).o, .bool (E q).mark, .int .u64 (E q).h] w.drew fun e w' => e = .returned (.tuple #[]) ∧ Filling B wb w' nb tb db N M sv touched T D (q + 1) E := by
  obtain ⟨hb, bf, hns, hl⟩ := h
  refine (setNamed_NS B nb tb db N M sv bf 0 touched T D q _ _ _ _ _ _ w.drew hns.drew hq).mono ?_
  rintro e w' ⟨rfl, hb', hns'⟩
  exact ⟨rfl, hb.drew.trans hb', _, hns', hl.next⟩

/-- The batch is filled, its count set and flushed. -/
theorem filling_held {B : Nat} {wb w : World} {nb tb db N M : Nat} {sv : Value} {touched : Int} {T : Nat → Nat × Nat} {D : Option (Nat → Int)} {q : Nat} {E : Nat → Ent}
    (h : Filling B wb w nb tb db N M sv touched T D q E) :
    Calls Tryd.prog 16 #[.pointer (some ⟨nb, 0, none⟩), .int .i64 q] w fun e w' => e = .returned (.tuple #[]) ∧ Below B wb w' ∧ ∃ bf, NS w' B nb tb db N M sv bf q touched T D ∧ Laid bf q E := by
  obtain ⟨hb, bf, hns, hl⟩ := h
  refine (setHeld_NS B nb tb db N M sv bf 0 touched T D q w hns).mono ?_
  rintro e w' ⟨rfl, hb', hns'⟩
  exact ⟨rfl, hb.trans hb', bf, hns', hl⟩

theorem slotName_at {w : World} {B nb tb db N M : Nat} {sv : Value} {bf : Nat → Value} {held touched : Int} {T : Nat → Nat × Nat} {D : Option (Nat → Int)} {k : Nat}
    (h : NS w B nb tb db N M sv bf held touched T D) (hk : k < N) :
    Calls Tryd.prog 20 #[.pointer (some ⟨nb, 0, none⟩), .int .i64 k] w fun e w' => e = .returned (.agg #[.int .u8 (((T k).2 / 256 ^ 0 % 256 : Nat) : Int), .int .u8 (((T k).2 / 256 ^ 1 % 256 : Nat) : Int), .int .u8 (((T k).2 / 256 ^ 2 % 256 : Nat) : Int), .int .u8 (((T k).2 / 256 ^ 3 % 256 : Nat) : Int)]) ∧ Below w.heap.size w w' := by
  have cb : ∀ j, j < 4 → w.cell? ⟨tb, k * 5 + 1 + j, none⟩ = some (.int .u8 ((((T k).2 / 256 ^ j) % 256 : Nat) : Int)) := fun j hj => by
    rw [h.tab.cell (i := k * 5 + 1 + j) (by omega), tabf_byte T k j hj]
  exact slotName_calls nb tb N k _ _ _ _ w hk (h.set.cell (i := 2) (by decide)) (cb 0 (by decide)) (cb 1 (by decide)) (cb 2 (by decide)) (cb 3 (by decide))

theorem slotTag_at {w : World} {B nb tb db N M : Nat} {sv : Value} {bf : Nat → Value} {held touched : Int} {T : Nat → Nat × Nat} {D : Option (Nat → Int)} {k : Nat}
    (h : NS w B nb tb db N M sv bf held touched T D) (hk : k < N) :
    Calls Tryd.prog 21 #[.pointer (some ⟨nb, 0, none⟩), .int .i64 k] w fun e w' => e = .returned (.int .u8 ((T k).1 : Nat)) ∧ w' = w :=
  slotTag_calls nb tb N k _ w hk (h.set.cell (i := 2) (by decide)) (by rw [h.tab.cell (i := k * 5) (by omega), tabf_tag])

theorem cells5 : Tryd.prog.cellsOf 5 = 1 := by kernel_rfl

/-- A name of a slot equals itself. -/
theorem same4 (y0 y1 y2 y3 : Int) (w : World) : (Op.equalIn 10000 47 (.agg #[.int .u8 y0, .int .u8 y1, .int .u8 y2, .int .u8 y3]) (.agg #[.int .u8 y0, .int .u8 y1, .int .u8 y2, .int .u8 y3])).run Tryd.prog w = .ok true w := by
  obtain ⟨i, hi, _⟩ := Option.map_eq_some_iff.1 info5
  rw [run_equalIn_array (P := Tryd.prog) w 9999 _ _ Tryd.underlying47 hi, cells5]
  simp [Op.eqItems, List.range_succ, go_sem]

theorem dupWords_none {w : World} {B nb tb db N M : Nat} {sv : Value} {bf : Nat → Value} {held touched : Int} {T : Nat → Nat × Nat}
    (h : NS w B nb tb db N M sv bf held touched T none) :
    Calls Tryd.prog 22 #[.pointer (some ⟨nb, 0, none⟩)] w fun e w' => e = .returned (.slice none 0 0) ∧ w' = w :=
  dupWords_calls nb db none 0 0 w (h.set.cell (i := 3) (by decide)) (h.dup.cell (i := 0) (by decide))

theorem dupWords_some {w : World} {B nb tb db N M : Nat} {sv : Value} {bf : Nat → Value} {held touched : Int} {T : Nat → Nat × Nat} {d : Nat → Int}
    (h : NS w B nb tb db N M sv bf held touched T (some d)) :
    ∃ xb, Calls Tryd.prog 22 #[.pointer (some ⟨nb, 0, none⟩)] w (fun e w' => e = .returned (.slice (some ⟨xb, 0, none⟩) M M) ∧ w' = w) ∧ ∀ j, j < M → w.cell? ⟨xb, j, none⟩ = some (.int .u64 (d j)) := by
  obtain ⟨xb, _, h1, h2⟩ := h.dup
  exact ⟨xb, dupWords_calls nb db _ M M w (h.set.cell (i := 3) (by decide)) (h1.cell (i := 0) (by decide)), fun j hj => h2.cell hj⟩

end Go.Proofs.Qxb6613752aDoor.W
