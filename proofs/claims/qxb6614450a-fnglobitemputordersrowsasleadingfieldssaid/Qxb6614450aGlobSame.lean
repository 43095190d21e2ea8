import Derived.Test.Qxb6614450aGlobCmp
import Derived.Stop.BytesEq
namespace Go.Proofs.Qxb6614450a.W
open Go.RowKit
open Extern.Stop (cell)
set_option linter.unusedSimpArgs false

theorem wpList_load_want {P : Program} {ops : Array Oper} {rest : List Oper} {op : Oper} {a : Act} {w : World} {Q : Exit → Act → World → Prop} (hw : Region.wanted op (yielded ops a.tmps) = true) (ty : TypeId) (x : Operand) (ho : op.op = .load ty x)
    (b o : Nat) (hx : a.eval x = .pointer (some ⟨b, o, none⟩)) (cs : List Value) (d : TypeDesc) (hc : w.rangeAt b o cs)
    (hu : P.underlying ty = some d) (hd : d.isRow = true) (hi : (P.info? ty).map (·.size) = some cs.length)
    (h : wpList P ops Q rest (a.put op.dst (.agg cs.toArray)) w) : wpList P ops Q (op :: rest) a w :=
  wpList_step fun K hK => by
    simp only [hw, if_true]
    exact wp_load_mid ty x ho b o hx cs d hc hu hd hi (hK _ _ h)

theorem szL37 (G : Glob) : (Try.prog.info? 37).map (·.size) = some (globL G).length := by rw [globL_len]; kernel_rfl

def eqI (f g : Nat → Nat) : Bool := byts f 20 == byts g 20

theorem idL_byts {f : Nat → Nat} (hf : ∀ j, f j < 256) : idL f = (byts f 20).map cell := by
  unfold idL byts
  rw [List.map_map]
  refine List.map_congr_left fun i _ => ?_
  have := hf i
  simp only [Function.comp_apply, cell]
  rw [UInt8.toNat_ofNat', Nat.mod_eq_of_lt (by simpa using this)]
  rfl

theorem eqI_iff {f g : Nat → Nat} (hf : ∀ j, f j < 256) (hg : ∀ j, g j < 256) : eqI f g = true ↔ idL f = idL g := by
  unfold eqI
  rw [beq_iff_eq]
  constructor
  · intro h; rw [idL_byts hf, idL_byts hg, h]
  · intro h
    have e : idB f = idB g := idB_inj.2 h
    have : ∀ i, i < 20 → f i = g i := fun i hi => by
      have := congrArg (·[i]?) e
      simpa [idB, hi] using this
    exact List.map_congr_left fun i hi => by rw [this i (List.mem_range.1 hi)]

theorem sizeOf5 (w : World) : (sizeOf 5).run Try.prog w = .ok 1 w := by kernel_rfl

theorem equal_ids {f g : Nat → Nat} (hf : ∀ j, f j < 256) (hg : ∀ j, g j < 256) (w : World) : (Op.equalIn 10000 25 (.agg (idL f).toArray) (.agg (idL g).toArray)).run Try.prog w = .ok (eqI f g) w := by
  rw [idL_byts hf, idL_byts hg]
  exact run_equalIn_bytes w 9998 25 5 20 Try.underlying25 Try.underlying5 sizeOf5 (byts f 20) (byts g 20) (by simp [byts]) (by simp [byts])

theorem with_ns {P : Program} {md : Region.Mode} {ops : Array Oper} {Q : Exit → Act → World → Prop} {S : World → Prop} {fuel : Nat} {listed : Array Bool} {a : Act} {w : World} (hs : Region.noSelect ops = true) (k : Hid (Region.noSelect ops = true) → wpAnyH P md ops Q S fuel listed a w) : wpAnyH P md ops Q S fuel listed a w := k hs

def SaysT (b c : Bool) (X : Prop) : Prop := b = true → (c = true ↔ X)
def SaysF (b : Bool) (X : Prop) : Prop := b = false → ¬ X
theorem SaysT.yes {c : Bool} {X : Prop} (h : SaysT true c X) : c = true ↔ X := h rfl
theorem SaysF.no {X : Prop} (h : SaysF false X) : false = true ↔ X := ⟨fun e => (by cases e), fun x => absurd x (h rfl)⟩

/-- What writtenEqual leaves. -/
def WePost (G K : Glob) (w : World) (e : Ending) (w' : World) : Prop := ∃ b : Bool, e = .returned (.bool b) ∧ (b = true ↔ same G K) ∧ Below w.heap.size w w'
theorem wePost {G K : Glob} {w w' : World} {e : Ending} (b : Bool) (he : e = .returned (.bool b)) (h : b = true ↔ same G K) (hb : Below w.heap.size w w') : WePost G K w e w' := ⟨b, he, h, hb⟩

set_option maxHeartbeats 16000000 in
set_option maxRecDepth 100000 in
theorem writtenEqual_post (G K : Glob) (hG : G.Ok) (hK : K.Ok) (w : World) :
    Calls Try.prog 22 #[.agg (globL G).toArray, .agg (globL K).toArray] w (WePost G K w) := by
  have R1 : Hid (((w.alloc (.cells (globL G).toArray 37)).alloc (.cells (globL K).toArray 37)).rangeAt w.heap.size 0 (globL G)) := rangeAt_below (range_new w _ _) (below_alloc _ _)
  have R2 : Hid (((w.alloc (.cells (globL G).toArray 37)).alloc (.cells (globL K).toArray 37)).rangeAt (w.heap.size + 1) 0 (globL K)) := by have := range_new (w.alloc (.cells (globL G).toArray 37)) (globL K) 37; show World.rangeAt _ _ _ _; simpa using this
  have B1 : Hid (Below w.heap.size w ((w.alloc (.cells (globL G).toArray 37)).alloc (.cells (globL K).toArray 37))) := bthen (below_alloc _ _) (below_alloc _ _)
  have C0 : Hid (∀ w', Keeps ((w.alloc (.cells (globL G).toArray 37)).alloc (.cells (globL K).toArray 37)) w' → w'.cell? ⟨w.heap.size, 0, none⟩ = some (.int .i64 G.key)) := fun w' h => glob_cell (rangeAt_below R1.out h.b) 0 _ rfl
  have D0 : Hid (∀ w', Keeps ((w.alloc (.cells (globL G).toArray 37)).alloc (.cells (globL K).toArray 37)) w' → w'.cell? ⟨w.heap.size + 1, 0, none⟩ = some (.int .i64 K.key)) := fun w' h => glob_cell (rangeAt_below R2.out h.b) 0 _ rfl
  have C1 : Hid (∀ w', Keeps ((w.alloc (.cells (globL G).toArray 37)).alloc (.cells (globL K).toArray 37)) w' → w'.cell? ⟨w.heap.size, 1, none⟩ = some (.int .i64 G.base)) := fun w' h => glob_cell (rangeAt_below R1.out h.b) 1 _ rfl
  have D1 : Hid (∀ w', Keeps ((w.alloc (.cells (globL G).toArray 37)).alloc (.cells (globL K).toArray 37)) w' → w'.cell? ⟨w.heap.size + 1, 1, none⟩ = some (.int .i64 K.base)) := fun w' h => glob_cell (rangeAt_below R2.out h.b) 1 _ rfl
  have C2 : Hid (∀ w', Keeps ((w.alloc (.cells (globL G).toArray 37)).alloc (.cells (globL K).toArray 37)) w' → w'.cell? ⟨w.heap.size, 2, none⟩ = some (.bool G.wait)) := fun w' h => glob_cell (rangeAt_below R1.out h.b) 2 _ rfl
  have D2 : Hid (∀ w', Keeps ((w.alloc (.cells (globL G).toArray 37)).alloc (.cells (globL K).toArray 37)) w' → w'.cell? ⟨w.heap.size + 1, 2, none⟩ = some (.bool K.wait)) := fun w' h => glob_cell (rangeAt_below R2.out h.b) 2 _ rfl
  have C3 : Hid (∀ w', Keeps ((w.alloc (.cells (globL G).toArray 37)).alloc (.cells (globL K).toArray 37)) w' → w'.cell? ⟨w.heap.size, 3, none⟩ = some (.int .i64 G.entry)) := fun w' h => glob_cell (rangeAt_below R1.out h.b) 3 _ rfl
  have D3 : Hid (∀ w', Keeps ((w.alloc (.cells (globL G).toArray 37)).alloc (.cells (globL K).toArray 37)) w' → w'.cell? ⟨w.heap.size + 1, 3, none⟩ = some (.int .i64 K.entry)) := fun w' h => glob_cell (rangeAt_below R2.out h.b) 3 _ rfl
  have C24 : Hid (∀ w', Keeps ((w.alloc (.cells (globL G).toArray 37)).alloc (.cells (globL K).toArray 37)) w' → w'.cell? ⟨w.heap.size, 24, none⟩ = some (.int .u8 (G.typ : Nat))) := fun w' h => glob_cell (rangeAt_below R1.out h.b) 24 _ rfl
  have D24 : Hid (∀ w', Keeps ((w.alloc (.cells (globL G).toArray 37)).alloc (.cells (globL K).toArray 37)) w' → w'.cell? ⟨w.heap.size + 1, 24, none⟩ = some (.int .u8 (K.typ : Nat))) := fun w' h => glob_cell (rangeAt_below R2.out h.b) 24 _ rfl
  have C25 : Hid (∀ w', Keeps ((w.alloc (.cells (globL G).toArray 37)).alloc (.cells (globL K).toArray 37)) w' → w'.cell? ⟨w.heap.size, 25, none⟩ = some (.int .i64 G.size)) := fun w' h => glob_cell (rangeAt_below R1.out h.b) 25 _ rfl
  have D25 : Hid (∀ w', Keeps ((w.alloc (.cells (globL G).toArray 37)).alloc (.cells (globL K).toArray 37)) w' → w'.cell? ⟨w.heap.size + 1, 25, none⟩ = some (.int .i64 K.size)) := fun w' h => glob_cell (rangeAt_below R2.out h.b) 25 _ rfl
  have C26 : Hid (∀ w', Keeps ((w.alloc (.cells (globL G).toArray 37)).alloc (.cells (globL K).toArray 37)) w' → w'.cell? ⟨w.heap.size, 26, none⟩ = some (.int .i64 G.offset)) := fun w' h => glob_cell (rangeAt_below R1.out h.b) 26 _ rfl
  have D26 : Hid (∀ w', Keeps ((w.alloc (.cells (globL G).toArray 37)).alloc (.cells (globL K).toArray 37)) w' → w'.cell? ⟨w.heap.size + 1, 26, none⟩ = some (.int .i64 K.offset)) := fun w' h => glob_cell (rangeAt_below R2.out h.b) 26 _ rfl
  have C27 : Hid (∀ w', Keeps ((w.alloc (.cells (globL G).toArray 37)).alloc (.cells (globL K).toArray 37)) w' → w'.cell? ⟨w.heap.size, 27, none⟩ = some (.int .u32 (G.crc : Nat))) := fun w' h => glob_cell (rangeAt_below R1.out h.b) 27 _ rfl
  have D27 : Hid (∀ w', Keeps ((w.alloc (.cells (globL G).toArray 37)).alloc (.cells (globL K).toArray 37)) w' → w'.cell? ⟨w.heap.size + 1, 27, none⟩ = some (.int .u32 (K.crc : Nat))) := fun w' h => glob_cell (rangeAt_below R2.out h.b) 27 _ rfl
  have C28 : Hid (∀ w', Keeps ((w.alloc (.cells (globL G).toArray 37)).alloc (.cells (globL K).toArray 37)) w' → w'.cell? ⟨w.heap.size, 28, none⟩ = some (.int .i64 G.data)) := fun w' h => glob_cell (rangeAt_below R1.out h.b) 28 _ rfl
  have D28 : Hid (∀ w', Keeps ((w.alloc (.cells (globL G).toArray 37)).alloc (.cells (globL K).toArray 37)) w' → w'.cell? ⟨w.heap.size + 1, 28, none⟩ = some (.int .i64 K.data)) := fun w' h => glob_cell (rangeAt_below R2.out h.b) 28 _ rfl
  have C29 : Hid (∀ w', Keeps ((w.alloc (.cells (globL G).toArray 37)).alloc (.cells (globL K).toArray 37)) w' → w'.cell? ⟨w.heap.size, 29, none⟩ = some (.int .i64 G.dsize)) := fun w' h => glob_cell (rangeAt_below R1.out h.b) 29 _ rfl
  have D29 : Hid (∀ w', Keeps ((w.alloc (.cells (globL G).toArray 37)).alloc (.cells (globL K).toArray 37)) w' → w'.cell? ⟨w.heap.size + 1, 29, none⟩ = some (.int .i64 K.dsize)) := fun w' h => glob_cell (rangeAt_below R2.out h.b) 29 _ rfl
  have C37 : Hid (∀ w', Keeps ((w.alloc (.cells (globL G).toArray 37)).alloc (.cells (globL K).toArray 37)) w' → w'.cell? ⟨w.heap.size, 37, none⟩ = some (.int .i64 G.fin)) := fun w' h => glob_cell (rangeAt_below R1.out h.b) 37 _ rfl
  have D37 : Hid (∀ w', Keeps ((w.alloc (.cells (globL G).toArray 37)).alloc (.cells (globL K).toArray 37)) w' → w'.cell? ⟨w.heap.size + 1, 37, none⟩ = some (.int .i64 K.fin)) := fun w' h => glob_cell (rangeAt_below R2.out h.b) 37 _ rfl
  have C31 : Hid (∀ w', Keeps ((w.alloc (.cells (globL G).toArray 37)).alloc (.cells (globL K).toArray 37)) w' → w'.cell? ⟨w.heap.size, 31, none⟩ = some (.int .i64 G.delta)) := fun w' h => glob_cell (rangeAt_below R1.out h.b) 31 _ rfl
  have D31 : Hid (∀ w', Keeps ((w.alloc (.cells (globL G).toArray 37)).alloc (.cells (globL K).toArray 37)) w' → w'.cell? ⟨w.heap.size + 1, 31, none⟩ = some (.int .i64 K.delta)) := fun w' h => glob_cell (rangeAt_below R2.out h.b) 31 _ rfl
  have C32 : Hid (∀ w', Keeps ((w.alloc (.cells (globL G).toArray 37)).alloc (.cells (globL K).toArray 37)) w' → w'.cell? ⟨w.heap.size, 32, none⟩ = some (.int .u32 (G.sum : Nat))) := fun w' h => glob_cell (rangeAt_below R1.out h.b) 32 _ rfl
  have D32 : Hid (∀ w', Keeps ((w.alloc (.cells (globL G).toArray 37)).alloc (.cells (globL K).toArray 37)) w' → w'.cell? ⟨w.heap.size + 1, 32, none⟩ = some (.int .u32 (K.sum : Nat))) := fun w' h => glob_cell (rangeAt_below R2.out h.b) 32 _ rfl
  have C39 : Hid (∀ w', Keeps ((w.alloc (.cells (globL G).toArray 37)).alloc (.cells (globL K).toArray 37)) w' → w'.cell? ⟨w.heap.size, 39, none⟩ = some (.int .i64 G.frm)) := fun w' h => glob_cell (rangeAt_below R1.out h.b) 39 _ rfl
  have D39 : Hid (∀ w', Keeps ((w.alloc (.cells (globL G).toArray 37)).alloc (.cells (globL K).toArray 37)) w' → w'.cell? ⟨w.heap.size + 1, 39, none⟩ = some (.int .i64 K.frm)) := fun w' h => glob_cell (rangeAt_below R2.out h.b) 39 _ rfl
  have Qid : Hid (∀ w, (Op.equalIn 10000 25 (.agg (idL G.id).toArray) (.agg (idL K.id).toArray)).run Try.prog w = .ok (eqI G.id K.id) w) := fun w => equal_ids hG.id hK.id w
  have Qbid : Hid (∀ w, (Op.equalIn 10000 25 (.agg (idL G.bid).toArray) (.agg (idL K.bid).toArray)).run Try.prog w = .ok (eqI G.bid K.bid) w) := fun w => equal_ids hG.bid hK.bid w
  have CG : Hid (∀ W', Keeps ((w.alloc (.cells (globL G).toArray 37)).alloc (.cells (globL K).toArray 37)) W' → Calls Try.prog 29 #[.agg (globL G).toArray] W' fun e w' => e = .returned (.int .u8 (codeB G : Nat)) ∧ Keeps ((w.alloc (.cells (globL G).toArray 37)).alloc (.cells (globL K).toArray 37)) w') := fun W' h => (globCode_calls G hG.code W').mono fun e w' h' => ⟨h'.1, ⟨bthen h.b h'.2⟩⟩
  have CK : Hid (∀ W', Keeps ((w.alloc (.cells (globL G).toArray 37)).alloc (.cells (globL K).toArray 37)) W' → Calls Try.prog 29 #[.agg (globL K).toArray] W' fun e w' => e = .returned (.int .u8 (codeB K : Nat)) ∧ Keeps ((w.alloc (.cells (globL G).toArray 37)).alloc (.cells (globL K).toArray 37)) w') := fun W' h => (globCode_calls K hK.code W').mono fun e w' h' => ⟨h'.1, ⟨bthen h.b h'.2⟩⟩
  obtain ⟨e0, E0⟩ : ∃ e : Bool, Hid ((G.key == K.key) = e) := ⟨_, rfl⟩
  obtain ⟨e1, E1⟩ : ∃ e : Bool, Hid ((G.base == K.base) = e) := ⟨_, rfl⟩
  obtain ⟨e2, E2⟩ : ∃ e : Bool, Hid ((G.wait == K.wait) = e) := ⟨_, rfl⟩
  obtain ⟨e3, E3⟩ : ∃ e : Bool, Hid ((G.entry == K.entry) = e) := ⟨_, rfl⟩
  obtain ⟨e4, E4⟩ : ∃ e : Bool, Hid ((eqI G.id K.id) = e) := ⟨_, rfl⟩
  obtain ⟨e5, E5⟩ : ∃ e : Bool, Hid ((((G.typ : Nat) : Int) == ((K.typ : Nat) : Int)) = e) := ⟨_, rfl⟩
  obtain ⟨e6, E6⟩ : ∃ e : Bool, Hid ((G.size == K.size) = e) := ⟨_, rfl⟩
  obtain ⟨e7, E7⟩ : ∃ e : Bool, Hid ((G.offset == K.offset) = e) := ⟨_, rfl⟩
  obtain ⟨e8, E8⟩ : ∃ e : Bool, Hid ((((G.crc : Nat) : Int) == ((K.crc : Nat) : Int)) = e) := ⟨_, rfl⟩
  obtain ⟨e9, E9⟩ : ∃ e : Bool, Hid ((G.data == K.data) = e) := ⟨_, rfl⟩
  obtain ⟨e10, E10⟩ : ∃ e : Bool, Hid ((G.dsize == K.dsize) = e) := ⟨_, rfl⟩
  obtain ⟨e11, E11⟩ : ∃ e : Bool, Hid ((G.fin == K.fin) = e) := ⟨_, rfl⟩
  obtain ⟨e12, E12⟩ : ∃ e : Bool, Hid ((G.delta == K.delta) = e) := ⟨_, rfl⟩
  obtain ⟨e13, E13⟩ : ∃ e : Bool, Hid ((((G.sum : Nat) : Int) == ((K.sum : Nat) : Int)) = e) := ⟨_, rfl⟩
  obtain ⟨e14, E14⟩ : ∃ e : Bool, Hid ((((codeB G : Nat) : Int) == ((codeB K : Nat) : Int)) = e) := ⟨_, rfl⟩
  obtain ⟨e15, E15⟩ : ∃ e : Bool, Hid ((G.frm == K.frm) = e) := ⟨_, rfl⟩
  obtain ⟨e16, E16⟩ : ∃ e : Bool, Hid ((eqI G.bid K.bid) = e) := ⟨_, rfl⟩
  obtain ⟨b1, Hb1⟩ : ∃ b : Bool, Hid (b = (e0 && e1)) := ⟨_, rfl⟩
  obtain ⟨b2, Hb2⟩ : ∃ b : Bool, Hid (b = (b1 && e2)) := ⟨_, rfl⟩
  obtain ⟨b3, Hb3⟩ : ∃ b : Bool, Hid (b = (b2 && e3)) := ⟨_, rfl⟩
  obtain ⟨b4, Hb4⟩ : ∃ b : Bool, Hid (b = (b3 && e4)) := ⟨_, rfl⟩
  obtain ⟨b5, Hb5⟩ : ∃ b : Bool, Hid (b = (b4 && e5)) := ⟨_, rfl⟩
  obtain ⟨b6, Hb6⟩ : ∃ b : Bool, Hid (b = (b5 && e6)) := ⟨_, rfl⟩
  obtain ⟨b7, Hb7⟩ : ∃ b : Bool, Hid (b = (b6 && e7)) := ⟨_, rfl⟩
  obtain ⟨b8, Hb8⟩ : ∃ b : Bool, Hid (b = (b7 && e8)) := ⟨_, rfl⟩
  obtain ⟨b9, Hb9⟩ : ∃ b : Bool, Hid (b = (b8 && e9)) := ⟨_, rfl⟩
  obtain ⟨b10, Hb10⟩ : ∃ b : Bool, Hid (b = (b9 && e10)) := ⟨_, rfl⟩
  obtain ⟨b11, Hb11⟩ : ∃ b : Bool, Hid (b = (b10 && e11)) := ⟨_, rfl⟩
  obtain ⟨b12, Hb12⟩ : ∃ b : Bool, Hid (b = (b11 && e12)) := ⟨_, rfl⟩
  obtain ⟨b13, Hb13⟩ : ∃ b : Bool, Hid (b = (b12 && e13)) := ⟨_, rfl⟩
  obtain ⟨b15, Hb15⟩ : ∃ b : Bool, Hid (b = (e14 && e15)) := ⟨_, rfl⟩
  obtain ⟨b16, Hb16⟩ : ∃ b : Bool, Hid (b = (b15 && e16)) := ⟨_, rfl⟩
  have SM : Hid (same G K ↔ (e0 = true ∧ e1 = true ∧ e2 = true ∧ e3 = true ∧ e4 = true ∧ e5 = true ∧ e6 = true ∧ e7 = true ∧ e8 = true ∧ e9 = true ∧ e10 = true ∧ e11 = true ∧ e12 = true ∧ e13 = true ∧ e14 = true ∧ e15 = true ∧ e16 = true)) := by
    show _ ↔ _
    unfold same
    rw [← E0.out, ← E1.out, ← E2.out, ← E3.out, ← E4.out, ← E5.out, ← E6.out, ← E7.out, ← E8.out, ← E9.out, ← E10.out, ← E11.out, ← E12.out, ← E13.out, ← E14.out, ← E15.out, ← E16.out, eqI_iff hG.id hK.id, eqI_iff hG.bid hK.bid]
    simp only [beq_iff_eq, Int.natCast_inj]
  have RT : Hid (SaysT b13 b16 (same G K)) := fun h => by
    rw [SM.out]
    have h13 := Hb13.out; have h12 := Hb12.out; have h11 := Hb11.out; have h10 := Hb10.out; have h9 := Hb9.out; have h8 := Hb8.out; have h7 := Hb7.out; have h6 := Hb6.out; have h5 := Hb5.out; have h4 := Hb4.out; have h3 := Hb3.out; have h2 := Hb2.out; have h1 := Hb1.out
    rw [h12, h11, h10, h9, h8, h7, h6, h5, h4, h3, h2, h1] at h13
    rw [h13] at h
    simp only [Bool.and_eq_true] at h
    rw [Hb16.out, Hb15.out]
    simp only [Bool.and_eq_true]
    constructor
    · intro h'; simp only [h, h', and_self]
    · rintro ⟨_, _, _, _, _, _, _, _, _, _, _, _, _, _, x, y, z⟩; exact ⟨⟨x, y⟩, z⟩
  have RF : Hid (SaysF b13 (same G K)) := fun h => by
    rw [SM.out]
    have h13 := Hb13.out; have h12 := Hb12.out; have h11 := Hb11.out; have h10 := Hb10.out; have h9 := Hb9.out; have h8 := Hb8.out; have h7 := Hb7.out; have h6 := Hb6.out; have h5 := Hb5.out; have h4 := Hb4.out; have h3 := Hb3.out; have h2 := Hb2.out; have h1 := Hb1.out
    rw [h12, h11, h10, h9, h8, h7, h6, h5, h4, h3, h2, h1] at h13
    rintro ⟨a0, a1, a2, a3, a4, a5, a6, a7, a8, a9, a10, a11, a12, a13, _⟩
    rw [h13, a0, a1, a2, a3, a4, a5, a6, a7, a8, a9, a10, a11, a12, a13] at h
    cases h
  clear SM hG hK
  go_enter Try.func22, Try.ntmps22
  go_wp2_with fail
  generalize (w.alloc (.cells (globL G).toArray 37)).alloc (.cells (globL K).toArray 37) = W1 at *
  obtain ⟨B, hBB⟩ : ∃ B, B = w.heap.size := ⟨_, rfl⟩
  rw [← hBB] at R1 R2 C0 D0 C1 D1 C2 D2 C3 D3 C24 D24 C25 D25 C26 D26 C27 D27 C28 D28 C29 D29 C37 D37 C31 D31 C32 D32 C39 D39
  rw [← hBB]
  clear hBB
  refine wp_region_held_drew (S := fun w' => Keeps W1 w') (by kernel_rfl) ⟨(Below.refl _ W1).drew⟩ (fun hHeld => ?_)
  refine with_ns (by decide +kernel) (fun hns => ?_)
  refine wpAnyH_take (i := 0) (v := .pointer (some ⟨B, 0, none⟩)) rfl hns.out (by decide +kernel) (by decide +kernel) (fun _ _ _ h => h) (Or.inl ⟨by kernel_rfl, fun w hSw => by go_simp⟩) (by assumption) ?_
  change wpAnyH _ _ _ _ _ _ _ (Act.put _ (some 5) _) _
  try simp only [Act.put, List.setIfInBounds_toArray, List.set_cons_zero, List.set_cons_succ]
  refine wpAnyH_take (i := 1) (v := .int .i64 G.key) rfl hns.out (by decide +kernel) (by decide +kernel) (fun _ _ _ h => h) (Or.inl ⟨by kernel_rfl, fun w hSw => by have := C0.out _ hSw; go_simp⟩) (by assumption) ?_
  change wpAnyH _ _ _ _ _ _ _ (Act.put _ (some 6) _) _
  try simp only [Act.put, List.setIfInBounds_toArray, List.set_cons_zero, List.set_cons_succ]
  refine wpAnyH_take (i := 2) (v := .pointer (some ⟨B + 1, 0, none⟩)) rfl hns.out (by decide +kernel) (by decide +kernel) (fun _ _ _ h => h) (Or.inl ⟨by kernel_rfl, fun w hSw => by go_simp⟩) (by assumption) ?_
  change wpAnyH _ _ _ _ _ _ _ (Act.put _ (some 7) _) _
  try simp only [Act.put, List.setIfInBounds_toArray, List.set_cons_zero, List.set_cons_succ]
  refine wpAnyH_take (i := 3) (v := .int .i64 K.key) rfl hns.out (by decide +kernel) (by decide +kernel) (fun _ _ _ h => h) (Or.inl ⟨by kernel_rfl, fun w hSw => by have := D0.out _ hSw; go_simp⟩) (by assumption) ?_
  change wpAnyH _ _ _ _ _ _ _ (Act.put _ (some 8) _) _
  try simp only [Act.put, List.setIfInBounds_toArray, List.set_cons_zero, List.set_cons_succ]
  refine wpAnyH_take (i := 4) (v := .bool e0) rfl hns.out (by decide +kernel) (by decide +kernel) (fun _ _ _ h => h) (Or.inl ⟨by kernel_rfl, fun w hSw => by have := E0.out; go_simp⟩) (by assumption) ?_
  change wpAnyH _ _ _ _ _ _ _ (Act.put _ (some 9) _) _
  try simp only [Act.put, List.setIfInBounds_toArray, List.set_cons_zero, List.set_cons_succ]
  refine wpAnyH_take (i := 5) (v := .bool e0) rfl hns.out (by decide +kernel) (by decide +kernel) (fun _ _ _ h => h) (Or.inl ⟨by kernel_rfl, fun w hSw => by go_simp⟩) (by assumption) ?_
  change wpAnyH _ _ _ _ _ _ _ (Act.put _ (some 10) _) _
  try simp only [Act.put, List.setIfInBounds_toArray, List.set_cons_zero, List.set_cons_succ]
  refine wpAnyH_take (i := 6) (v := bif e0 then .pointer (some ⟨B, 1, none⟩) else undef) rfl hns.out (by decide +kernel) (by decide +kernel) (fun _ _ _ h => h) ?hy6 (by assumption) ?_
  case hy6 =>
    clear hHeld
    cases e0 with
    | true => exact Or.inl ⟨by kernel_rfl, fun w hSw => by go_simp⟩
    | false => exact Or.inr ⟨by kernel_rfl, rfl⟩
  change wpAnyH _ _ _ _ _ _ _ (Act.put _ (some 11) _) _
  try simp only [Act.put, List.setIfInBounds_toArray, List.set_cons_zero, List.set_cons_succ]
  refine wpAnyH_take (i := 7) (v := bif e0 then .int .i64 G.base else undef) rfl hns.out (by decide +kernel) (by decide +kernel) (fun _ _ _ h => h) ?hy7 (by assumption) ?_
  case hy7 =>
    clear hHeld
    cases e0 with
    | true => exact Or.inl ⟨by kernel_rfl, fun w hSw => by have := C1.out _ hSw; go_simp⟩
    | false => exact Or.inr ⟨by kernel_rfl, rfl⟩
  change wpAnyH _ _ _ _ _ _ _ (Act.put _ (some 12) _) _
  try simp only [Act.put, List.setIfInBounds_toArray, List.set_cons_zero, List.set_cons_succ]
  refine wpAnyH_take (i := 8) (v := bif e0 then .pointer (some ⟨B + 1, 1, none⟩) else undef) rfl hns.out (by decide +kernel) (by decide +kernel) (fun _ _ _ h => h) ?hy8 (by assumption) ?_
  case hy8 =>
    clear hHeld
    cases e0 with
    | true => exact Or.inl ⟨by kernel_rfl, fun w hSw => by go_simp⟩
    | false => exact Or.inr ⟨by kernel_rfl, rfl⟩
  change wpAnyH _ _ _ _ _ _ _ (Act.put _ (some 13) _) _
  try simp only [Act.put, List.setIfInBounds_toArray, List.set_cons_zero, List.set_cons_succ]
  refine wpAnyH_take (i := 9) (v := bif e0 then .int .i64 K.base else undef) rfl hns.out (by decide +kernel) (by decide +kernel) (fun _ _ _ h => h) ?hy9 (by assumption) ?_
  case hy9 =>
    clear hHeld
    cases e0 with
    | true => exact Or.inl ⟨by kernel_rfl, fun w hSw => by have := D1.out _ hSw; go_simp⟩
    | false => exact Or.inr ⟨by kernel_rfl, rfl⟩
  change wpAnyH _ _ _ _ _ _ _ (Act.put _ (some 14) _) _
  try simp only [Act.put, List.setIfInBounds_toArray, List.set_cons_zero, List.set_cons_succ]
  refine wpAnyH_take (i := 10) (v := bif e0 then .bool e1 else undef) rfl hns.out (by decide +kernel) (by decide +kernel) (fun _ _ _ h => h) ?hy10 (by assumption) ?_
  case hy10 =>
    clear hHeld
    cases e0 with
    | true => exact Or.inl ⟨by kernel_rfl, fun w hSw => by have := E1.out; go_simp⟩
    | false => exact Or.inr ⟨by kernel_rfl, rfl⟩
  change wpAnyH _ _ _ _ _ _ _ (Act.put _ (some 15) _) _
  try simp only [Act.put, List.setIfInBounds_toArray, List.set_cons_zero, List.set_cons_succ]
  refine wpAnyH_take (i := 11) (v := .bool b1) rfl hns.out (by decide +kernel) (by decide +kernel) (fun _ _ _ h => h) ?hy11 (by assumption) ?_
  case hy11 =>
    clear hHeld
    rw [Hb1.out]
    clear Hb1
    cases e0 with
    | true => exact Or.inl ⟨by kernel_rfl, fun w hSw => by go_simp⟩
    | false => exact Or.inl ⟨by kernel_rfl, fun w hSw => by go_simp⟩
  change wpAnyH _ _ _ _ _ _ _ (Act.put _ (some 16) _) _
  try simp only [Act.put, List.setIfInBounds_toArray, List.set_cons_zero, List.set_cons_succ]
  refine wpAnyH_take (i := 12) (v := .bool b1) rfl hns.out (by decide +kernel) (by decide +kernel) (fun _ _ _ h => h) (Or.inl ⟨by kernel_rfl, fun w hSw => by go_simp⟩) (by assumption) ?_
  change wpAnyH _ _ _ _ _ _ _ (Act.put _ (some 17) _) _
  try simp only [Act.put, List.setIfInBounds_toArray, List.set_cons_zero, List.set_cons_succ]
  refine wpAnyH_take (i := 13) (v := bif b1 then .pointer (some ⟨B, 2, none⟩) else undef) rfl hns.out (by decide +kernel) (by decide +kernel) (fun _ _ _ h => h) ?hy13 (by assumption) ?_
  case hy13 =>
    clear hHeld
    cases b1 with
    | true => exact Or.inl ⟨by kernel_rfl, fun w hSw => by go_simp⟩
    | false => exact Or.inr ⟨by kernel_rfl, rfl⟩
  change wpAnyH _ _ _ _ _ _ _ (Act.put _ (some 18) _) _
  try simp only [Act.put, List.setIfInBounds_toArray, List.set_cons_zero, List.set_cons_succ]
  refine wpAnyH_take (i := 14) (v := bif b1 then .bool G.wait else undef) rfl hns.out (by decide +kernel) (by decide +kernel) (fun _ _ _ h => h) ?hy14 (by assumption) ?_
  case hy14 =>
    clear hHeld
    cases b1 with
    | true => exact Or.inl ⟨by kernel_rfl, fun w hSw => by have := C2.out _ hSw; go_simp⟩
    | false => exact Or.inr ⟨by kernel_rfl, rfl⟩
  change wpAnyH _ _ _ _ _ _ _ (Act.put _ (some 19) _) _
  try simp only [Act.put, List.setIfInBounds_toArray, List.set_cons_zero, List.set_cons_succ]
  refine wpAnyH_take (i := 15) (v := bif b1 then .pointer (some ⟨B + 1, 2, none⟩) else undef) rfl hns.out (by decide +kernel) (by decide +kernel) (fun _ _ _ h => h) ?hy15 (by assumption) ?_
  case hy15 =>
    clear hHeld
    cases b1 with
    | true => exact Or.inl ⟨by kernel_rfl, fun w hSw => by go_simp⟩
    | false => exact Or.inr ⟨by kernel_rfl, rfl⟩
  change wpAnyH _ _ _ _ _ _ _ (Act.put _ (some 20) _) _
  try simp only [Act.put, List.setIfInBounds_toArray, List.set_cons_zero, List.set_cons_succ]
  refine wpAnyH_take (i := 16) (v := bif b1 then .bool K.wait else undef) rfl hns.out (by decide +kernel) (by decide +kernel) (fun _ _ _ h => h) ?hy16 (by assumption) ?_
  case hy16 =>
    clear hHeld
    cases b1 with
    | true => exact Or.inl ⟨by kernel_rfl, fun w hSw => by have := D2.out _ hSw; go_simp⟩
    | false => exact Or.inr ⟨by kernel_rfl, rfl⟩
  change wpAnyH _ _ _ _ _ _ _ (Act.put _ (some 21) _) _
  try simp only [Act.put, List.setIfInBounds_toArray, List.set_cons_zero, List.set_cons_succ]
  refine wpAnyH_take (i := 17) (v := bif b1 then .bool e2 else undef) rfl hns.out (by decide +kernel) (by decide +kernel) (fun _ _ _ h => h) ?hy17 (by assumption) ?_
  case hy17 =>
    clear hHeld
    cases b1 with
    | true => exact Or.inl ⟨by kernel_rfl, fun w hSw => by have := E2.out; go_simp⟩
    | false => exact Or.inr ⟨by kernel_rfl, rfl⟩
  change wpAnyH _ _ _ _ _ _ _ (Act.put _ (some 22) _) _
  try simp only [Act.put, List.setIfInBounds_toArray, List.set_cons_zero, List.set_cons_succ]
  refine wpAnyH_take (i := 18) (v := .bool b2) rfl hns.out (by decide +kernel) (by decide +kernel) (fun _ _ _ h => h) ?hy18 (by assumption) ?_
  case hy18 =>
    clear hHeld
    rw [Hb2.out]
    clear Hb2
    cases b1 with
    | true => exact Or.inl ⟨by kernel_rfl, fun w hSw => by go_simp⟩
    | false => exact Or.inl ⟨by kernel_rfl, fun w hSw => by go_simp⟩
  change wpAnyH _ _ _ _ _ _ _ (Act.put _ (some 23) _) _
  try simp only [Act.put, List.setIfInBounds_toArray, List.set_cons_zero, List.set_cons_succ]
  refine wpAnyH_take (i := 19) (v := .bool b2) rfl hns.out (by decide +kernel) (by decide +kernel) (fun _ _ _ h => h) (Or.inl ⟨by kernel_rfl, fun w hSw => by go_simp⟩) (by assumption) ?_
  change wpAnyH _ _ _ _ _ _ _ (Act.put _ (some 24) _) _
  try simp only [Act.put, List.setIfInBounds_toArray, List.set_cons_zero, List.set_cons_succ]
  refine wpAnyH_take (i := 20) (v := bif b2 then .pointer (some ⟨B, 3, none⟩) else undef) rfl hns.out (by decide +kernel) (by decide +kernel) (fun _ _ _ h => h) ?hy20 (by assumption) ?_
  case hy20 =>
    clear hHeld
    cases b2 with
    | true => exact Or.inl ⟨by kernel_rfl, fun w hSw => by go_simp⟩
    | false => exact Or.inr ⟨by kernel_rfl, rfl⟩
  change wpAnyH _ _ _ _ _ _ _ (Act.put _ (some 25) _) _
  try simp only [Act.put, List.setIfInBounds_toArray, List.set_cons_zero, List.set_cons_succ]
  refine wpAnyH_take (i := 21) (v := bif b2 then .int .i64 G.entry else undef) rfl hns.out (by decide +kernel) (by decide +kernel) (fun _ _ _ h => h) ?hy21 (by assumption) ?_
  case hy21 =>
    clear hHeld
    cases b2 with
    | true => exact Or.inl ⟨by kernel_rfl, fun w hSw => by have := C3.out _ hSw; go_simp⟩
    | false => exact Or.inr ⟨by kernel_rfl, rfl⟩
  change wpAnyH _ _ _ _ _ _ _ (Act.put _ (some 26) _) _
  try simp only [Act.put, List.setIfInBounds_toArray, List.set_cons_zero, List.set_cons_succ]
  refine wpAnyH_take (i := 22) (v := bif b2 then .pointer (some ⟨B + 1, 3, none⟩) else undef) rfl hns.out (by decide +kernel) (by decide +kernel) (fun _ _ _ h => h) ?hy22 (by assumption) ?_
  case hy22 =>
    clear hHeld
    cases b2 with
    | true => exact Or.inl ⟨by kernel_rfl, fun w hSw => by go_simp⟩
    | false => exact Or.inr ⟨by kernel_rfl, rfl⟩
  change wpAnyH _ _ _ _ _ _ _ (Act.put _ (some 27) _) _
  try simp only [Act.put, List.setIfInBounds_toArray, List.set_cons_zero, List.set_cons_succ]
  refine wpAnyH_take (i := 23) (v := bif b2 then .int .i64 K.entry else undef) rfl hns.out (by decide +kernel) (by decide +kernel) (fun _ _ _ h => h) ?hy23 (by assumption) ?_
  case hy23 =>
    clear hHeld
    cases b2 with
    | true => exact Or.inl ⟨by kernel_rfl, fun w hSw => by have := D3.out _ hSw; go_simp⟩
    | false => exact Or.inr ⟨by kernel_rfl, rfl⟩
  change wpAnyH _ _ _ _ _ _ _ (Act.put _ (some 28) _) _
  try simp only [Act.put, List.setIfInBounds_toArray, List.set_cons_zero, List.set_cons_succ]
  refine wpAnyH_take (i := 24) (v := bif b2 then .bool e3 else undef) rfl hns.out (by decide +kernel) (by decide +kernel) (fun _ _ _ h => h) ?hy24 (by assumption) ?_
  case hy24 =>
    clear hHeld
    cases b2 with
    | true => exact Or.inl ⟨by kernel_rfl, fun w hSw => by have := E3.out; go_simp⟩
    | false => exact Or.inr ⟨by kernel_rfl, rfl⟩
  change wpAnyH _ _ _ _ _ _ _ (Act.put _ (some 29) _) _
  try simp only [Act.put, List.setIfInBounds_toArray, List.set_cons_zero, List.set_cons_succ]
  refine wpAnyH_take (i := 25) (v := .bool b3) rfl hns.out (by decide +kernel) (by decide +kernel) (fun _ _ _ h => h) ?hy25 (by assumption) ?_
  case hy25 =>
    clear hHeld
    rw [Hb3.out]
    clear Hb3
    cases b2 with
    | true => exact Or.inl ⟨by kernel_rfl, fun w hSw => by go_simp⟩
    | false => exact Or.inl ⟨by kernel_rfl, fun w hSw => by go_simp⟩
  change wpAnyH _ _ _ _ _ _ _ (Act.put _ (some 30) _) _
  try simp only [Act.put, List.setIfInBounds_toArray, List.set_cons_zero, List.set_cons_succ]
  refine wpAnyH_take (i := 26) (v := .bool b3) rfl hns.out (by decide +kernel) (by decide +kernel) (fun _ _ _ h => h) (Or.inl ⟨by kernel_rfl, fun w hSw => by go_simp⟩) (by assumption) ?_
  change wpAnyH _ _ _ _ _ _ _ (Act.put _ (some 31) _) _
  try simp only [Act.put, List.setIfInBounds_toArray, List.set_cons_zero, List.set_cons_succ]
  refine wpAnyH_take (i := 27) (v := bif b3 then .pointer (some ⟨B, 4, none⟩) else undef) rfl hns.out (by decide +kernel) (by decide +kernel) (fun _ _ _ h => h) ?hy27 (by assumption) ?_
  case hy27 =>
    clear hHeld
    cases b3 with
    | true => exact Or.inl ⟨by kernel_rfl, fun w hSw => by go_simp⟩
    | false => exact Or.inr ⟨by kernel_rfl, rfl⟩
  change wpAnyH _ _ _ _ _ _ _ (Act.put _ (some 32) _) _
  try simp only [Act.put, List.setIfInBounds_toArray, List.set_cons_zero, List.set_cons_succ]
  refine wpAnyH_take (i := 28) (v := bif b3 then .agg (idL G.id).toArray else undef) rfl hns.out (by decide +kernel) (by decide +kernel) (fun _ _ _ h => h) ?hy28 (by assumption) ?_
  case hy28 =>
    clear hHeld
    cases b3 with
    | true => exact yieldsIf_load_mid (by kernel_rfl) 25 _ rfl B (4) (by kernel_rfl) (idL G.id) _ (fun w hw => globL_id (rangeAt_below R1.out hw.b)) Try.underlying25 rfl (szL25 G.id)
    | false => exact Or.inr ⟨by kernel_rfl, rfl⟩
  change wpAnyH _ _ _ _ _ _ _ (Act.put _ (some 33) _) _
  try simp only [Act.put, List.setIfInBounds_toArray, List.set_cons_zero, List.set_cons_succ]
  refine wpAnyH_take (i := 29) (v := bif b3 then .pointer (some ⟨B + 1, 4, none⟩) else undef) rfl hns.out (by decide +kernel) (by decide +kernel) (fun _ _ _ h => h) ?hy29 (by assumption) ?_
  case hy29 =>
    clear hHeld
    cases b3 with
    | true => exact Or.inl ⟨by kernel_rfl, fun w hSw => by go_simp⟩
    | false => exact Or.inr ⟨by kernel_rfl, rfl⟩
  change wpAnyH _ _ _ _ _ _ _ (Act.put _ (some 34) _) _
  try simp only [Act.put, List.setIfInBounds_toArray, List.set_cons_zero, List.set_cons_succ]
  refine wpAnyH_take (i := 30) (v := bif b3 then .agg (idL K.id).toArray else undef) rfl hns.out (by decide +kernel) (by decide +kernel) (fun _ _ _ h => h) ?hy30 (by assumption) ?_
  case hy30 =>
    clear hHeld
    cases b3 with
    | true => exact yieldsIf_load_mid (by kernel_rfl) 25 _ rfl (B + 1) (4) (by kernel_rfl) (idL K.id) _ (fun w hw => globL_id (rangeAt_below R2.out hw.b)) Try.underlying25 rfl (szL25 K.id)
    | false => exact Or.inr ⟨by kernel_rfl, rfl⟩
  change wpAnyH _ _ _ _ _ _ _ (Act.put _ (some 35) _) _
  try simp only [Act.put, List.setIfInBounds_toArray, List.set_cons_zero, List.set_cons_succ]
  refine wpAnyH_take (i := 31) (v := bif b3 then .bool e4 else undef) rfl hns.out (by decide +kernel) (by decide +kernel) (fun _ _ _ h => h) ?hy31 (by assumption) ?_
  case hy31 =>
    clear hHeld
    cases b3 with
    | true => exact Or.inl ⟨by kernel_rfl, fun w hSw => by have := Qid.out w; have := E4.out; go_simp⟩
    | false => exact Or.inr ⟨by kernel_rfl, rfl⟩
  change wpAnyH _ _ _ _ _ _ _ (Act.put _ (some 36) _) _
  try simp only [Act.put, List.setIfInBounds_toArray, List.set_cons_zero, List.set_cons_succ]
  refine wpAnyH_take (i := 32) (v := .bool b4) rfl hns.out (by decide +kernel) (by decide +kernel) (fun _ _ _ h => h) ?hy32 (by assumption) ?_
  case hy32 =>
    clear hHeld
    rw [Hb4.out]
    clear Hb4
    cases b3 with
    | true => exact Or.inl ⟨by kernel_rfl, fun w hSw => by go_simp⟩
    | false => exact Or.inl ⟨by kernel_rfl, fun w hSw => by go_simp⟩
  change wpAnyH _ _ _ _ _ _ _ (Act.put _ (some 37) _) _
  try simp only [Act.put, List.setIfInBounds_toArray, List.set_cons_zero, List.set_cons_succ]
  refine wpAnyH_take (i := 33) (v := .bool b4) rfl hns.out (by decide +kernel) (by decide +kernel) (fun _ _ _ h => h) (Or.inl ⟨by kernel_rfl, fun w hSw => by go_simp⟩) (by assumption) ?_
  change wpAnyH _ _ _ _ _ _ _ (Act.put _ (some 38) _) _
  try simp only [Act.put, List.setIfInBounds_toArray, List.set_cons_zero, List.set_cons_succ]
  refine wpAnyH_take (i := 34) (v := bif b4 then .pointer (some ⟨B, 24, none⟩) else undef) rfl hns.out (by decide +kernel) (by decide +kernel) (fun _ _ _ h => h) ?hy34 (by assumption) ?_
  case hy34 =>
    clear hHeld
    cases b4 with
    | true => exact Or.inl ⟨by kernel_rfl, fun w hSw => by go_simp⟩
    | false => exact Or.inr ⟨by kernel_rfl, rfl⟩
  change wpAnyH _ _ _ _ _ _ _ (Act.put _ (some 39) _) _
  try simp only [Act.put, List.setIfInBounds_toArray, List.set_cons_zero, List.set_cons_succ]
  refine wpAnyH_take (i := 35) (v := bif b4 then .int .u8 (G.typ : Nat) else undef) rfl hns.out (by decide +kernel) (by decide +kernel) (fun _ _ _ h => h) ?hy35 (by assumption) ?_
  case hy35 =>
    clear hHeld
    cases b4 with
    | true => exact Or.inl ⟨by kernel_rfl, fun w hSw => by have := C24.out _ hSw; go_simp⟩
    | false => exact Or.inr ⟨by kernel_rfl, rfl⟩
  change wpAnyH _ _ _ _ _ _ _ (Act.put _ (some 40) _) _
  try simp only [Act.put, List.setIfInBounds_toArray, List.set_cons_zero, List.set_cons_succ]
  refine wpAnyH_take (i := 36) (v := bif b4 then .pointer (some ⟨B + 1, 24, none⟩) else undef) rfl hns.out (by decide +kernel) (by decide +kernel) (fun _ _ _ h => h) ?hy36 (by assumption) ?_
  case hy36 =>
    clear hHeld
    cases b4 with
    | true => exact Or.inl ⟨by kernel_rfl, fun w hSw => by go_simp⟩
    | false => exact Or.inr ⟨by kernel_rfl, rfl⟩
  change wpAnyH _ _ _ _ _ _ _ (Act.put _ (some 41) _) _
  try simp only [Act.put, List.setIfInBounds_toArray, List.set_cons_zero, List.set_cons_succ]
  refine wpAnyH_take (i := 37) (v := bif b4 then .int .u8 (K.typ : Nat) else undef) rfl hns.out (by decide +kernel) (by decide +kernel) (fun _ _ _ h => h) ?hy37 (by assumption) ?_
  case hy37 =>
    clear hHeld
    cases b4 with
    | true => exact Or.inl ⟨by kernel_rfl, fun w hSw => by have := D24.out _ hSw; go_simp⟩
    | false => exact Or.inr ⟨by kernel_rfl, rfl⟩
  change wpAnyH _ _ _ _ _ _ _ (Act.put _ (some 42) _) _
  try simp only [Act.put, List.setIfInBounds_toArray, List.set_cons_zero, List.set_cons_succ]
  refine wpAnyH_take (i := 38) (v := bif b4 then .bool e5 else undef) rfl hns.out (by decide +kernel) (by decide +kernel) (fun _ _ _ h => h) ?hy38 (by assumption) ?_
  case hy38 =>
    clear hHeld
    cases b4 with
    | true => exact Or.inl ⟨by kernel_rfl, fun w hSw => by have := E5.out; go_simp⟩
    | false => exact Or.inr ⟨by kernel_rfl, rfl⟩
  change wpAnyH _ _ _ _ _ _ _ (Act.put _ (some 43) _) _
  try simp only [Act.put, List.setIfInBounds_toArray, List.set_cons_zero, List.set_cons_succ]
  refine wpAnyH_take (i := 39) (v := .bool b5) rfl hns.out (by decide +kernel) (by decide +kernel) (fun _ _ _ h => h) ?hy39 (by assumption) ?_
  case hy39 =>
    clear hHeld
    rw [Hb5.out]
    clear Hb5
    cases b4 with
    | true => exact Or.inl ⟨by kernel_rfl, fun w hSw => by go_simp⟩
    | false => exact Or.inl ⟨by kernel_rfl, fun w hSw => by go_simp⟩
  change wpAnyH _ _ _ _ _ _ _ (Act.put _ (some 44) _) _
  try simp only [Act.put, List.setIfInBounds_toArray, List.set_cons_zero, List.set_cons_succ]
  refine wpAnyH_take (i := 40) (v := .bool b5) rfl hns.out (by decide +kernel) (by decide +kernel) (fun _ _ _ h => h) (Or.inl ⟨by kernel_rfl, fun w hSw => by go_simp⟩) (by assumption) ?_
  change wpAnyH _ _ _ _ _ _ _ (Act.put _ (some 45) _) _
  try simp only [Act.put, List.setIfInBounds_toArray, List.set_cons_zero, List.set_cons_succ]
  refine wpAnyH_take (i := 41) (v := bif b5 then .pointer (some ⟨B, 25, none⟩) else undef) rfl hns.out (by decide +kernel) (by decide +kernel) (fun _ _ _ h => h) ?hy41 (by assumption) ?_
  case hy41 =>
    clear hHeld
    cases b5 with
    | true => exact Or.inl ⟨by kernel_rfl, fun w hSw => by go_simp⟩
    | false => exact Or.inr ⟨by kernel_rfl, rfl⟩
  change wpAnyH _ _ _ _ _ _ _ (Act.put _ (some 46) _) _
  try simp only [Act.put, List.setIfInBounds_toArray, List.set_cons_zero, List.set_cons_succ]
  refine wpAnyH_take (i := 42) (v := bif b5 then .int .i64 G.size else undef) rfl hns.out (by decide +kernel) (by decide +kernel) (fun _ _ _ h => h) ?hy42 (by assumption) ?_
  case hy42 =>
    clear hHeld
    cases b5 with
    | true => exact Or.inl ⟨by kernel_rfl, fun w hSw => by have := C25.out _ hSw; go_simp⟩
    | false => exact Or.inr ⟨by kernel_rfl, rfl⟩
  change wpAnyH _ _ _ _ _ _ _ (Act.put _ (some 47) _) _
  try simp only [Act.put, List.setIfInBounds_toArray, List.set_cons_zero, List.set_cons_succ]
  refine wpAnyH_take (i := 43) (v := bif b5 then .pointer (some ⟨B + 1, 25, none⟩) else undef) rfl hns.out (by decide +kernel) (by decide +kernel) (fun _ _ _ h => h) ?hy43 (by assumption) ?_
  case hy43 =>
    clear hHeld
    cases b5 with
    | true => exact Or.inl ⟨by kernel_rfl, fun w hSw => by go_simp⟩
    | false => exact Or.inr ⟨by kernel_rfl, rfl⟩
  change wpAnyH _ _ _ _ _ _ _ (Act.put _ (some 48) _) _
  try simp only [Act.put, List.setIfInBounds_toArray, List.set_cons_zero, List.set_cons_succ]
  refine wpAnyH_take (i := 44) (v := bif b5 then .int .i64 K.size else undef) rfl hns.out (by decide +kernel) (by decide +kernel) (fun _ _ _ h => h) ?hy44 (by assumption) ?_
  case hy44 =>
    clear hHeld
    cases b5 with
    | true => exact Or.inl ⟨by kernel_rfl, fun w hSw => by have := D25.out _ hSw; go_simp⟩
    | false => exact Or.inr ⟨by kernel_rfl, rfl⟩
  change wpAnyH _ _ _ _ _ _ _ (Act.put _ (some 49) _) _
  try simp only [Act.put, List.setIfInBounds_toArray, List.set_cons_zero, List.set_cons_succ]
  refine wpAnyH_take (i := 45) (v := bif b5 then .bool e6 else undef) rfl hns.out (by decide +kernel) (by decide +kernel) (fun _ _ _ h => h) ?hy45 (by assumption) ?_
  case hy45 =>
    clear hHeld
    cases b5 with
    | true => exact Or.inl ⟨by kernel_rfl, fun w hSw => by have := E6.out; go_simp⟩
    | false => exact Or.inr ⟨by kernel_rfl, rfl⟩
  change wpAnyH _ _ _ _ _ _ _ (Act.put _ (some 50) _) _
  try simp only [Act.put, List.setIfInBounds_toArray, List.set_cons_zero, List.set_cons_succ]
  refine wpAnyH_take (i := 46) (v := .bool b6) rfl hns.out (by decide +kernel) (by decide +kernel) (fun _ _ _ h => h) ?hy46 (by assumption) ?_
  case hy46 =>
    clear hHeld
    rw [Hb6.out]
    clear Hb6
    cases b5 with
    | true => exact Or.inl ⟨by kernel_rfl, fun w hSw => by go_simp⟩
    | false => exact Or.inl ⟨by kernel_rfl, fun w hSw => by go_simp⟩
  change wpAnyH _ _ _ _ _ _ _ (Act.put _ (some 51) _) _
  try simp only [Act.put, List.setIfInBounds_toArray, List.set_cons_zero, List.set_cons_succ]
  refine wpAnyH_take (i := 47) (v := .bool b6) rfl hns.out (by decide +kernel) (by decide +kernel) (fun _ _ _ h => h) (Or.inl ⟨by kernel_rfl, fun w hSw => by go_simp⟩) (by assumption) ?_
  change wpAnyH _ _ _ _ _ _ _ (Act.put _ (some 52) _) _
  try simp only [Act.put, List.setIfInBounds_toArray, List.set_cons_zero, List.set_cons_succ]
  refine wpAnyH_take (i := 48) (v := bif b6 then .pointer (some ⟨B, 26, none⟩) else undef) rfl hns.out (by decide +kernel) (by decide +kernel) (fun _ _ _ h => h) ?hy48 (by assumption) ?_
  case hy48 =>
    clear hHeld
    cases b6 with
    | true => exact Or.inl ⟨by kernel_rfl, fun w hSw => by go_simp⟩
    | false => exact Or.inr ⟨by kernel_rfl, rfl⟩
  change wpAnyH _ _ _ _ _ _ _ (Act.put _ (some 53) _) _
  try simp only [Act.put, List.setIfInBounds_toArray, List.set_cons_zero, List.set_cons_succ]
  refine wpAnyH_take (i := 49) (v := bif b6 then .int .i64 G.offset else undef) rfl hns.out (by decide +kernel) (by decide +kernel) (fun _ _ _ h => h) ?hy49 (by assumption) ?_
  case hy49 =>
    clear hHeld
    cases b6 with
    | true => exact Or.inl ⟨by kernel_rfl, fun w hSw => by have := C26.out _ hSw; go_simp⟩
    | false => exact Or.inr ⟨by kernel_rfl, rfl⟩
  change wpAnyH _ _ _ _ _ _ _ (Act.put _ (some 54) _) _
  try simp only [Act.put, List.setIfInBounds_toArray, List.set_cons_zero, List.set_cons_succ]
  refine wpAnyH_take (i := 50) (v := bif b6 then .pointer (some ⟨B + 1, 26, none⟩) else undef) rfl hns.out (by decide +kernel) (by decide +kernel) (fun _ _ _ h => h) ?hy50 (by assumption) ?_
  case hy50 =>
    clear hHeld
    cases b6 with
    | true => exact Or.inl ⟨by kernel_rfl, fun w hSw => by go_simp⟩
    | false => exact Or.inr ⟨by kernel_rfl, rfl⟩
  change wpAnyH _ _ _ _ _ _ _ (Act.put _ (some 55) _) _
  try simp only [Act.put, List.setIfInBounds_toArray, List.set_cons_zero, List.set_cons_succ]
  refine wpAnyH_take (i := 51) (v := bif b6 then .int .i64 K.offset else undef) rfl hns.out (by decide +kernel) (by decide +kernel) (fun _ _ _ h => h) ?hy51 (by assumption) ?_
  case hy51 =>
    clear hHeld
    cases b6 with
    | true => exact Or.inl ⟨by kernel_rfl, fun w hSw => by have := D26.out _ hSw; go_simp⟩
    | false => exact Or.inr ⟨by kernel_rfl, rfl⟩
  change wpAnyH _ _ _ _ _ _ _ (Act.put _ (some 56) _) _
  try simp only [Act.put, List.setIfInBounds_toArray, List.set_cons_zero, List.set_cons_succ]
  refine wpAnyH_take (i := 52) (v := bif b6 then .bool e7 else undef) rfl hns.out (by decide +kernel) (by decide +kernel) (fun _ _ _ h => h) ?hy52 (by assumption) ?_
  case hy52 =>
    clear hHeld
    cases b6 with
    | true => exact Or.inl ⟨by kernel_rfl, fun w hSw => by have := E7.out; go_simp⟩
    | false => exact Or.inr ⟨by kernel_rfl, rfl⟩
  change wpAnyH _ _ _ _ _ _ _ (Act.put _ (some 57) _) _
  try simp only [Act.put, List.setIfInBounds_toArray, List.set_cons_zero, List.set_cons_succ]
  refine wpAnyH_take (i := 53) (v := .bool b7) rfl hns.out (by decide +kernel) (by decide +kernel) (fun _ _ _ h => h) ?hy53 (by assumption) ?_
  case hy53 =>
    clear hHeld
    rw [Hb7.out]
    clear Hb7
    cases b6 with
    | true => exact Or.inl ⟨by kernel_rfl, fun w hSw => by go_simp⟩
    | false => exact Or.inl ⟨by kernel_rfl, fun w hSw => by go_simp⟩
  change wpAnyH _ _ _ _ _ _ _ (Act.put _ (some 58) _) _
  try simp only [Act.put, List.setIfInBounds_toArray, List.set_cons_zero, List.set_cons_succ]
  refine wpAnyH_take (i := 54) (v := .bool b7) rfl hns.out (by decide +kernel) (by decide +kernel) (fun _ _ _ h => h) (Or.inl ⟨by kernel_rfl, fun w hSw => by go_simp⟩) (by assumption) ?_
  change wpAnyH _ _ _ _ _ _ _ (Act.put _ (some 59) _) _
  try simp only [Act.put, List.setIfInBounds_toArray, List.set_cons_zero, List.set_cons_succ]
  refine wpAnyH_take (i := 55) (v := bif b7 then .pointer (some ⟨B, 27, none⟩) else undef) rfl hns.out (by decide +kernel) (by decide +kernel) (fun _ _ _ h => h) ?hy55 (by assumption) ?_
  case hy55 =>
    clear hHeld
    cases b7 with
    | true => exact Or.inl ⟨by kernel_rfl, fun w hSw => by go_simp⟩
    | false => exact Or.inr ⟨by kernel_rfl, rfl⟩
  change wpAnyH _ _ _ _ _ _ _ (Act.put _ (some 60) _) _
  try simp only [Act.put, List.setIfInBounds_toArray, List.set_cons_zero, List.set_cons_succ]
  refine wpAnyH_take (i := 56) (v := bif b7 then .int .u32 (G.crc : Nat) else undef) rfl hns.out (by decide +kernel) (by decide +kernel) (fun _ _ _ h => h) ?hy56 (by assumption) ?_
  case hy56 =>
    clear hHeld
    cases b7 with
    | true => exact Or.inl ⟨by kernel_rfl, fun w hSw => by have := C27.out _ hSw; go_simp⟩
    | false => exact Or.inr ⟨by kernel_rfl, rfl⟩
  change wpAnyH _ _ _ _ _ _ _ (Act.put _ (some 61) _) _
  try simp only [Act.put, List.setIfInBounds_toArray, List.set_cons_zero, List.set_cons_succ]
  refine wpAnyH_take (i := 57) (v := bif b7 then .pointer (some ⟨B + 1, 27, none⟩) else undef) rfl hns.out (by decide +kernel) (by decide +kernel) (fun _ _ _ h => h) ?hy57 (by assumption) ?_
  case hy57 =>
    clear hHeld
    cases b7 with
    | true => exact Or.inl ⟨by kernel_rfl, fun w hSw => by go_simp⟩
    | false => exact Or.inr ⟨by kernel_rfl, rfl⟩
  change wpAnyH _ _ _ _ _ _ _ (Act.put _ (some 62) _) _
  try simp only [Act.put, List.setIfInBounds_toArray, List.set_cons_zero, List.set_cons_succ]
  refine wpAnyH_take (i := 58) (v := bif b7 then .int .u32 (K.crc : Nat) else undef) rfl hns.out (by decide +kernel) (by decide +kernel) (fun _ _ _ h => h) ?hy58 (by assumption) ?_
  case hy58 =>
    clear hHeld
    cases b7 with
    | true => exact Or.inl ⟨by kernel_rfl, fun w hSw => by have := D27.out _ hSw; go_simp⟩
    | false => exact Or.inr ⟨by kernel_rfl, rfl⟩
  change wpAnyH _ _ _ _ _ _ _ (Act.put _ (some 63) _) _
  try simp only [Act.put, List.setIfInBounds_toArray, List.set_cons_zero, List.set_cons_succ]
  refine wpAnyH_take (i := 59) (v := bif b7 then .bool e8 else undef) rfl hns.out (by decide +kernel) (by decide +kernel) (fun _ _ _ h => h) ?hy59 (by assumption) ?_
  case hy59 =>
    clear hHeld
    cases b7 with
    | true => exact Or.inl ⟨by kernel_rfl, fun w hSw => by have := E8.out; go_simp⟩
    | false => exact Or.inr ⟨by kernel_rfl, rfl⟩
  change wpAnyH _ _ _ _ _ _ _ (Act.put _ (some 64) _) _
  try simp only [Act.put, List.setIfInBounds_toArray, List.set_cons_zero, List.set_cons_succ]
  refine wpAnyH_take (i := 60) (v := .bool b8) rfl hns.out (by decide +kernel) (by decide +kernel) (fun _ _ _ h => h) ?hy60 (by assumption) ?_
  case hy60 =>
    clear hHeld
    rw [Hb8.out]
    clear Hb8
    cases b7 with
    | true => exact Or.inl ⟨by kernel_rfl, fun w hSw => by go_simp⟩
    | false => exact Or.inl ⟨by kernel_rfl, fun w hSw => by go_simp⟩
  change wpAnyH _ _ _ _ _ _ _ (Act.put _ (some 65) _) _
  try simp only [Act.put, List.setIfInBounds_toArray, List.set_cons_zero, List.set_cons_succ]
  refine wpAnyH_take (i := 61) (v := .bool b8) rfl hns.out (by decide +kernel) (by decide +kernel) (fun _ _ _ h => h) (Or.inl ⟨by kernel_rfl, fun w hSw => by go_simp⟩) (by assumption) ?_
  change wpAnyH _ _ _ _ _ _ _ (Act.put _ (some 66) _) _
  try simp only [Act.put, List.setIfInBounds_toArray, List.set_cons_zero, List.set_cons_succ]
  refine wpAnyH_take (i := 62) (v := bif b8 then .pointer (some ⟨B, 28, none⟩) else undef) rfl hns.out (by decide +kernel) (by decide +kernel) (fun _ _ _ h => h) ?hy62 (by assumption) ?_
  case hy62 =>
    clear hHeld
    cases b8 with
    | true => exact Or.inl ⟨by kernel_rfl, fun w hSw => by go_simp⟩
    | false => exact Or.inr ⟨by kernel_rfl, rfl⟩
  change wpAnyH _ _ _ _ _ _ _ (Act.put _ (some 67) _) _
  try simp only [Act.put, List.setIfInBounds_toArray, List.set_cons_zero, List.set_cons_succ]
  refine wpAnyH_take (i := 63) (v := bif b8 then .int .i64 G.data else undef) rfl hns.out (by decide +kernel) (by decide +kernel) (fun _ _ _ h => h) ?hy63 (by assumption) ?_
  case hy63 =>
    clear hHeld
    cases b8 with
    | true => exact Or.inl ⟨by kernel_rfl, fun w hSw => by have := C28.out _ hSw; go_simp⟩
    | false => exact Or.inr ⟨by kernel_rfl, rfl⟩
  change wpAnyH _ _ _ _ _ _ _ (Act.put _ (some 68) _) _
  try simp only [Act.put, List.setIfInBounds_toArray, List.set_cons_zero, List.set_cons_succ]
  refine wpAnyH_take (i := 64) (v := bif b8 then .pointer (some ⟨B + 1, 28, none⟩) else undef) rfl hns.out (by decide +kernel) (by decide +kernel) (fun _ _ _ h => h) ?hy64 (by assumption) ?_
  case hy64 =>
    clear hHeld
    cases b8 with
    | true => exact Or.inl ⟨by kernel_rfl, fun w hSw => by go_simp⟩
    | false => exact Or.inr ⟨by kernel_rfl, rfl⟩
  change wpAnyH _ _ _ _ _ _ _ (Act.put _ (some 69) _) _
  try simp only [Act.put, List.setIfInBounds_toArray, List.set_cons_zero, List.set_cons_succ]
  refine wpAnyH_take (i := 65) (v := bif b8 then .int .i64 K.data else undef) rfl hns.out (by decide +kernel) (by decide +kernel) (fun _ _ _ h => h) ?hy65 (by assumption) ?_
  case hy65 =>
    clear hHeld
    cases b8 with
    | true => exact Or.inl ⟨by kernel_rfl, fun w hSw => by have := D28.out _ hSw; go_simp⟩
    | false => exact Or.inr ⟨by kernel_rfl, rfl⟩
  change wpAnyH _ _ _ _ _ _ _ (Act.put _ (some 70) _) _
  try simp only [Act.put, List.setIfInBounds_toArray, List.set_cons_zero, List.set_cons_succ]
  refine wpAnyH_take (i := 66) (v := bif b8 then .bool e9 else undef) rfl hns.out (by decide +kernel) (by decide +kernel) (fun _ _ _ h => h) ?hy66 (by assumption) ?_
  case hy66 =>
    clear hHeld
    cases b8 with
    | true => exact Or.inl ⟨by kernel_rfl, fun w hSw => by have := E9.out; go_simp⟩
    | false => exact Or.inr ⟨by kernel_rfl, rfl⟩
  change wpAnyH _ _ _ _ _ _ _ (Act.put _ (some 71) _) _
  try simp only [Act.put, List.setIfInBounds_toArray, List.set_cons_zero, List.set_cons_succ]
  refine wpAnyH_take (i := 67) (v := .bool b9) rfl hns.out (by decide +kernel) (by decide +kernel) (fun _ _ _ h => h) ?hy67 (by assumption) ?_
  case hy67 =>
    clear hHeld
    rw [Hb9.out]
    clear Hb9
    cases b8 with
    | true => exact Or.inl ⟨by kernel_rfl, fun w hSw => by go_simp⟩
    | false => exact Or.inl ⟨by kernel_rfl, fun w hSw => by go_simp⟩
  change wpAnyH _ _ _ _ _ _ _ (Act.put _ (some 72) _) _
  try simp only [Act.put, List.setIfInBounds_toArray, List.set_cons_zero, List.set_cons_succ]
  refine wpAnyH_take (i := 68) (v := .bool b9) rfl hns.out (by decide +kernel) (by decide +kernel) (fun _ _ _ h => h) (Or.inl ⟨by kernel_rfl, fun w hSw => by go_simp⟩) (by assumption) ?_
  change wpAnyH _ _ _ _ _ _ _ (Act.put _ (some 73) _) _
  try simp only [Act.put, List.setIfInBounds_toArray, List.set_cons_zero, List.set_cons_succ]
  refine wpAnyH_take (i := 69) (v := bif b9 then .pointer (some ⟨B, 29, none⟩) else undef) rfl hns.out (by decide +kernel) (by decide +kernel) (fun _ _ _ h => h) ?hy69 (by assumption) ?_
  case hy69 =>
    clear hHeld
    cases b9 with
    | true => exact Or.inl ⟨by kernel_rfl, fun w hSw => by go_simp⟩
    | false => exact Or.inr ⟨by kernel_rfl, rfl⟩
  change wpAnyH _ _ _ _ _ _ _ (Act.put _ (some 74) _) _
  try simp only [Act.put, List.setIfInBounds_toArray, List.set_cons_zero, List.set_cons_succ]
  refine wpAnyH_take (i := 70) (v := bif b9 then .int .i64 G.dsize else undef) rfl hns.out (by decide +kernel) (by decide +kernel) (fun _ _ _ h => h) ?hy70 (by assumption) ?_
  case hy70 =>
    clear hHeld
    cases b9 with
    | true => exact Or.inl ⟨by kernel_rfl, fun w hSw => by have := C29.out _ hSw; go_simp⟩
    | false => exact Or.inr ⟨by kernel_rfl, rfl⟩
  change wpAnyH _ _ _ _ _ _ _ (Act.put _ (some 75) _) _
  try simp only [Act.put, List.setIfInBounds_toArray, List.set_cons_zero, List.set_cons_succ]
  refine wpAnyH_take (i := 71) (v := bif b9 then .pointer (some ⟨B + 1, 29, none⟩) else undef) rfl hns.out (by decide +kernel) (by decide +kernel) (fun _ _ _ h => h) ?hy71 (by assumption) ?_
  case hy71 =>
    clear hHeld
    cases b9 with
    | true => exact Or.inl ⟨by kernel_rfl, fun w hSw => by go_simp⟩
    | false => exact Or.inr ⟨by kernel_rfl, rfl⟩
  change wpAnyH _ _ _ _ _ _ _ (Act.put _ (some 76) _) _
  try simp only [Act.put, List.setIfInBounds_toArray, List.set_cons_zero, List.set_cons_succ]
  refine wpAnyH_take (i := 72) (v := bif b9 then .int .i64 K.dsize else undef) rfl hns.out (by decide +kernel) (by decide +kernel) (fun _ _ _ h => h) ?hy72 (by assumption) ?_
  case hy72 =>
    clear hHeld
    cases b9 with
    | true => exact Or.inl ⟨by kernel_rfl, fun w hSw => by have := D29.out _ hSw; go_simp⟩
    | false => exact Or.inr ⟨by kernel_rfl, rfl⟩
  change wpAnyH _ _ _ _ _ _ _ (Act.put _ (some 77) _) _
  try simp only [Act.put, List.setIfInBounds_toArray, List.set_cons_zero, List.set_cons_succ]
  refine wpAnyH_take (i := 73) (v := bif b9 then .bool e10 else undef) rfl hns.out (by decide +kernel) (by decide +kernel) (fun _ _ _ h => h) ?hy73 (by assumption) ?_
  case hy73 =>
    clear hHeld
    cases b9 with
    | true => exact Or.inl ⟨by kernel_rfl, fun w hSw => by have := E10.out; go_simp⟩
    | false => exact Or.inr ⟨by kernel_rfl, rfl⟩
  change wpAnyH _ _ _ _ _ _ _ (Act.put _ (some 78) _) _
  try simp only [Act.put, List.setIfInBounds_toArray, List.set_cons_zero, List.set_cons_succ]
  refine wpAnyH_take (i := 74) (v := .bool b10) rfl hns.out (by decide +kernel) (by decide +kernel) (fun _ _ _ h => h) ?hy74 (by assumption) ?_
  case hy74 =>
    clear hHeld
    rw [Hb10.out]
    clear Hb10
    cases b9 with
    | true => exact Or.inl ⟨by kernel_rfl, fun w hSw => by go_simp⟩
    | false => exact Or.inl ⟨by kernel_rfl, fun w hSw => by go_simp⟩
  change wpAnyH _ _ _ _ _ _ _ (Act.put _ (some 79) _) _
  try simp only [Act.put, List.setIfInBounds_toArray, List.set_cons_zero, List.set_cons_succ]
  refine wpAnyH_take (i := 75) (v := .bool b10) rfl hns.out (by decide +kernel) (by decide +kernel) (fun _ _ _ h => h) (Or.inl ⟨by kernel_rfl, fun w hSw => by go_simp⟩) (by assumption) ?_
  change wpAnyH _ _ _ _ _ _ _ (Act.put _ (some 80) _) _
  try simp only [Act.put, List.setIfInBounds_toArray, List.set_cons_zero, List.set_cons_succ]
  refine wpAnyH_take (i := 76) (v := bif b10 then .pointer (some ⟨B, 37, none⟩) else undef) rfl hns.out (by decide +kernel) (by decide +kernel) (fun _ _ _ h => h) ?hy76 (by assumption) ?_
  case hy76 =>
    clear hHeld
    cases b10 with
    | true => exact Or.inl ⟨by kernel_rfl, fun w hSw => by go_simp⟩
    | false => exact Or.inr ⟨by kernel_rfl, rfl⟩
  change wpAnyH _ _ _ _ _ _ _ (Act.put _ (some 81) _) _
  try simp only [Act.put, List.setIfInBounds_toArray, List.set_cons_zero, List.set_cons_succ]
  refine wpAnyH_take (i := 77) (v := bif b10 then .int .i64 G.fin else undef) rfl hns.out (by decide +kernel) (by decide +kernel) (fun _ _ _ h => h) ?hy77 (by assumption) ?_
  case hy77 =>
    clear hHeld
    cases b10 with
    | true => exact Or.inl ⟨by kernel_rfl, fun w hSw => by have := C37.out _ hSw; go_simp⟩
    | false => exact Or.inr ⟨by kernel_rfl, rfl⟩
  change wpAnyH _ _ _ _ _ _ _ (Act.put _ (some 82) _) _
  try simp only [Act.put, List.setIfInBounds_toArray, List.set_cons_zero, List.set_cons_succ]
  refine wpAnyH_take (i := 78) (v := bif b10 then .pointer (some ⟨B + 1, 37, none⟩) else undef) rfl hns.out (by decide +kernel) (by decide +kernel) (fun _ _ _ h => h) ?hy78 (by assumption) ?_
  case hy78 =>
    clear hHeld
    cases b10 with
    | true => exact Or.inl ⟨by kernel_rfl, fun w hSw => by go_simp⟩
    | false => exact Or.inr ⟨by kernel_rfl, rfl⟩
  change wpAnyH _ _ _ _ _ _ _ (Act.put _ (some 83) _) _
  try simp only [Act.put, List.setIfInBounds_toArray, List.set_cons_zero, List.set_cons_succ]
  refine wpAnyH_take (i := 79) (v := bif b10 then .int .i64 K.fin else undef) rfl hns.out (by decide +kernel) (by decide +kernel) (fun _ _ _ h => h) ?hy79 (by assumption) ?_
  case hy79 =>
    clear hHeld
    cases b10 with
    | true => exact Or.inl ⟨by kernel_rfl, fun w hSw => by have := D37.out _ hSw; go_simp⟩
    | false => exact Or.inr ⟨by kernel_rfl, rfl⟩
  change wpAnyH _ _ _ _ _ _ _ (Act.put _ (some 84) _) _
  try simp only [Act.put, List.setIfInBounds_toArray, List.set_cons_zero, List.set_cons_succ]
  refine wpAnyH_take (i := 80) (v := bif b10 then .bool e11 else undef) rfl hns.out (by decide +kernel) (by decide +kernel) (fun _ _ _ h => h) ?hy80 (by assumption) ?_
  case hy80 =>
    clear hHeld
    cases b10 with
    | true => exact Or.inl ⟨by kernel_rfl, fun w hSw => by have := E11.out; go_simp⟩
    | false => exact Or.inr ⟨by kernel_rfl, rfl⟩
  change wpAnyH _ _ _ _ _ _ _ (Act.put _ (some 85) _) _
  try simp only [Act.put, List.setIfInBounds_toArray, List.set_cons_zero, List.set_cons_succ]
  refine wpAnyH_take (i := 81) (v := .bool b11) rfl hns.out (by decide +kernel) (by decide +kernel) (fun _ _ _ h => h) ?hy81 (by assumption) ?_
  case hy81 =>
    clear hHeld
    rw [Hb11.out]
    clear Hb11
    cases b10 with
    | true => exact Or.inl ⟨by kernel_rfl, fun w hSw => by go_simp⟩
    | false => exact Or.inl ⟨by kernel_rfl, fun w hSw => by go_simp⟩
  change wpAnyH _ _ _ _ _ _ _ (Act.put _ (some 86) _) _
  try simp only [Act.put, List.setIfInBounds_toArray, List.set_cons_zero, List.set_cons_succ]
  refine wpAnyH_take (i := 82) (v := .bool b11) rfl hns.out (by decide +kernel) (by decide +kernel) (fun _ _ _ h => h) (Or.inl ⟨by kernel_rfl, fun w hSw => by go_simp⟩) (by assumption) ?_
  change wpAnyH _ _ _ _ _ _ _ (Act.put _ (some 87) _) _
  try simp only [Act.put, List.setIfInBounds_toArray, List.set_cons_zero, List.set_cons_succ]
  refine wpAnyH_take (i := 83) (v := bif b11 then .pointer (some ⟨B, 31, none⟩) else undef) rfl hns.out (by decide +kernel) (by decide +kernel) (fun _ _ _ h => h) ?hy83 (by assumption) ?_
  case hy83 =>
    clear hHeld
    cases b11 with
    | true => exact Or.inl ⟨by kernel_rfl, fun w hSw => by go_simp⟩
    | false => exact Or.inr ⟨by kernel_rfl, rfl⟩
  change wpAnyH _ _ _ _ _ _ _ (Act.put _ (some 88) _) _
  try simp only [Act.put, List.setIfInBounds_toArray, List.set_cons_zero, List.set_cons_succ]
  refine wpAnyH_take (i := 84) (v := bif b11 then .int .i64 G.delta else undef) rfl hns.out (by decide +kernel) (by decide +kernel) (fun _ _ _ h => h) ?hy84 (by assumption) ?_
  case hy84 =>
    clear hHeld
    cases b11 with
    | true => exact Or.inl ⟨by kernel_rfl, fun w hSw => by have := C31.out _ hSw; go_simp⟩
    | false => exact Or.inr ⟨by kernel_rfl, rfl⟩
  change wpAnyH _ _ _ _ _ _ _ (Act.put _ (some 89) _) _
  try simp only [Act.put, List.setIfInBounds_toArray, List.set_cons_zero, List.set_cons_succ]
  refine wpAnyH_take (i := 85) (v := bif b11 then .pointer (some ⟨B + 1, 31, none⟩) else undef) rfl hns.out (by decide +kernel) (by decide +kernel) (fun _ _ _ h => h) ?hy85 (by assumption) ?_
  case hy85 =>
    clear hHeld
    cases b11 with
    | true => exact Or.inl ⟨by kernel_rfl, fun w hSw => by go_simp⟩
    | false => exact Or.inr ⟨by kernel_rfl, rfl⟩
  change wpAnyH _ _ _ _ _ _ _ (Act.put _ (some 90) _) _
  try simp only [Act.put, List.setIfInBounds_toArray, List.set_cons_zero, List.set_cons_succ]
  refine wpAnyH_take (i := 86) (v := bif b11 then .int .i64 K.delta else undef) rfl hns.out (by decide +kernel) (by decide +kernel) (fun _ _ _ h => h) ?hy86 (by assumption) ?_
  case hy86 =>
    clear hHeld
    cases b11 with
    | true => exact Or.inl ⟨by kernel_rfl, fun w hSw => by have := D31.out _ hSw; go_simp⟩
    | false => exact Or.inr ⟨by kernel_rfl, rfl⟩
  change wpAnyH _ _ _ _ _ _ _ (Act.put _ (some 91) _) _
  try simp only [Act.put, List.setIfInBounds_toArray, List.set_cons_zero, List.set_cons_succ]
  refine wpAnyH_take (i := 87) (v := bif b11 then .bool e12 else undef) rfl hns.out (by decide +kernel) (by decide +kernel) (fun _ _ _ h => h) ?hy87 (by assumption) ?_
  case hy87 =>
    clear hHeld
    cases b11 with
    | true => exact Or.inl ⟨by kernel_rfl, fun w hSw => by have := E12.out; go_simp⟩
    | false => exact Or.inr ⟨by kernel_rfl, rfl⟩
  change wpAnyH _ _ _ _ _ _ _ (Act.put _ (some 92) _) _
  try simp only [Act.put, List.setIfInBounds_toArray, List.set_cons_zero, List.set_cons_succ]
  refine wpAnyH_take (i := 88) (v := .bool b12) rfl hns.out (by decide +kernel) (by decide +kernel) (fun _ _ _ h => h) ?hy88 (by assumption) ?_
  case hy88 =>
    clear hHeld
    rw [Hb12.out]
    clear Hb12
    cases b11 with
    | true => exact Or.inl ⟨by kernel_rfl, fun w hSw => by go_simp⟩
    | false => exact Or.inl ⟨by kernel_rfl, fun w hSw => by go_simp⟩
  change wpAnyH _ _ _ _ _ _ _ (Act.put _ (some 93) _) _
  try simp only [Act.put, List.setIfInBounds_toArray, List.set_cons_zero, List.set_cons_succ]
  refine wpAnyH_take (i := 89) (v := .bool b12) rfl hns.out (by decide +kernel) (by decide +kernel) (fun _ _ _ h => h) (Or.inl ⟨by kernel_rfl, fun w hSw => by go_simp⟩) (by assumption) ?_
  change wpAnyH _ _ _ _ _ _ _ (Act.put _ (some 94) _) _
  try simp only [Act.put, List.setIfInBounds_toArray, List.set_cons_zero, List.set_cons_succ]
  refine wpAnyH_take (i := 90) (v := bif b12 then .pointer (some ⟨B, 32, none⟩) else undef) rfl hns.out (by decide +kernel) (by decide +kernel) (fun _ _ _ h => h) ?hy90 (by assumption) ?_
  case hy90 =>
    clear hHeld
    cases b12 with
    | true => exact Or.inl ⟨by kernel_rfl, fun w hSw => by go_simp⟩
    | false => exact Or.inr ⟨by kernel_rfl, rfl⟩
  change wpAnyH _ _ _ _ _ _ _ (Act.put _ (some 95) _) _
  try simp only [Act.put, List.setIfInBounds_toArray, List.set_cons_zero, List.set_cons_succ]
  refine wpAnyH_take (i := 91) (v := bif b12 then .int .u32 (G.sum : Nat) else undef) rfl hns.out (by decide +kernel) (by decide +kernel) (fun _ _ _ h => h) ?hy91 (by assumption) ?_
  case hy91 =>
    clear hHeld
    cases b12 with
    | true => exact Or.inl ⟨by kernel_rfl, fun w hSw => by have := C32.out _ hSw; go_simp⟩
    | false => exact Or.inr ⟨by kernel_rfl, rfl⟩
  change wpAnyH _ _ _ _ _ _ _ (Act.put _ (some 96) _) _
  try simp only [Act.put, List.setIfInBounds_toArray, List.set_cons_zero, List.set_cons_succ]
  refine wpAnyH_take (i := 92) (v := bif b12 then .pointer (some ⟨B + 1, 32, none⟩) else undef) rfl hns.out (by decide +kernel) (by decide +kernel) (fun _ _ _ h => h) ?hy92 (by assumption) ?_
  case hy92 =>
    clear hHeld
    cases b12 with
    | true => exact Or.inl ⟨by kernel_rfl, fun w hSw => by go_simp⟩
    | false => exact Or.inr ⟨by kernel_rfl, rfl⟩
  change wpAnyH _ _ _ _ _ _ _ (Act.put _ (some 97) _) _
  try simp only [Act.put, List.setIfInBounds_toArray, List.set_cons_zero, List.set_cons_succ]
  refine wpAnyH_take (i := 93) (v := bif b12 then .int .u32 (K.sum : Nat) else undef) rfl hns.out (by decide +kernel) (by decide +kernel) (fun _ _ _ h => h) ?hy93 (by assumption) ?_
  case hy93 =>
    clear hHeld
    cases b12 with
    | true => exact Or.inl ⟨by kernel_rfl, fun w hSw => by have := D32.out _ hSw; go_simp⟩
    | false => exact Or.inr ⟨by kernel_rfl, rfl⟩
  change wpAnyH _ _ _ _ _ _ _ (Act.put _ (some 98) _) _
  try simp only [Act.put, List.setIfInBounds_toArray, List.set_cons_zero, List.set_cons_succ]
  refine wpAnyH_take (i := 94) (v := bif b12 then .bool e13 else undef) rfl hns.out (by decide +kernel) (by decide +kernel) (fun _ _ _ h => h) ?hy94 (by assumption) ?_
  case hy94 =>
    clear hHeld
    cases b12 with
    | true => exact Or.inl ⟨by kernel_rfl, fun w hSw => by have := E13.out; go_simp⟩
    | false => exact Or.inr ⟨by kernel_rfl, rfl⟩
  change wpAnyH _ _ _ _ _ _ _ (Act.put _ (some 99) _) _
  try simp only [Act.put, List.setIfInBounds_toArray, List.set_cons_zero, List.set_cons_succ]
  refine wpAnyH_take (i := 95) (v := .bool b13) rfl hns.out (by decide +kernel) (by decide +kernel) (fun _ _ _ h => h) ?hy95 (by assumption) ?_
  case hy95 =>
    clear hHeld
    rw [Hb13.out]
    clear Hb13
    cases b12 with
    | true => exact Or.inl ⟨by kernel_rfl, fun w hSw => by go_simp⟩
    | false => exact Or.inl ⟨by kernel_rfl, fun w hSw => by go_simp⟩
  change wpAnyH _ _ _ _ _ _ _ (Act.put _ (some 100) _) _
  try simp only [Act.put, List.setIfInBounds_toArray, List.set_cons_zero, List.set_cons_succ]
  refine wpAnyH_take (i := 96) (v := .bool b13) rfl hns.out (by decide +kernel) (by decide +kernel) (fun _ _ _ h => h) (Or.inl ⟨by kernel_rfl, fun w hSw => by go_simp⟩) (by assumption) ?_
  change wpAnyH _ _ _ _ _ _ _ (Act.put _ (some 101) _) _
  try simp only [Act.put, List.setIfInBounds_toArray, List.set_cons_zero, List.set_cons_succ]
  refine wpAnyH_take (i := 97) (v := bif b13 then .agg (globL G).toArray else undef) rfl hns.out (by decide +kernel) (by decide +kernel) (fun _ _ _ h => h) ?hy97 (by assumption) ?_
  case hy97 =>
    clear hHeld
    cases b13 with
    | true => exact yieldsIf_load_mid (by kernel_rfl) 37 _ rfl B (0) (by kernel_rfl) (globL G) _ (fun w hw => rangeAt_below R1.out hw.b) Try.underlying37 rfl (szL37 G)
    | false => exact Or.inr ⟨by kernel_rfl, rfl⟩
  change wpAnyH _ _ _ _ _ _ _ (Act.put _ (some 102) _) _
  try simp only [Act.put, List.setIfInBounds_toArray, List.set_cons_zero, List.set_cons_succ]
  refine wpAnyH_take (i := 99) (v := bif b13 then .agg (globL K).toArray else undef) rfl hns.out (by decide +kernel) (by decide +kernel) (fun _ _ _ h => h) ?hy99 (by assumption) ?_
  case hy99 =>
    clear hHeld
    cases b13 with
    | true => exact yieldsIf_load_mid (by kernel_rfl) 37 _ rfl (B + 1) (0) (by kernel_rfl) (globL K) _ (fun w hw => rangeAt_below R2.out hw.b) Try.underlying37 rfl (szL37 K)
    | false => exact Or.inr ⟨by kernel_rfl, rfl⟩
  change wpAnyH _ _ _ _ _ _ _ (Act.put _ (some 104) _) _
  try simp only [Act.put, List.setIfInBounds_toArray, List.set_cons_zero, List.set_cons_succ]
  cases b13 with
  | true =>
    refine wpAnyH_ready (rs := [98]) (by kernel_rfl) (by simp) ?_
    refine AllReadyH.cons (o := _) rfl (fun K hK => ?_) AllReadyH.nil
    rw [if_pos (by kernel_rfl)]
    go_simp
    refine (CG.out _ (by assumption)).mono ?_
    rintro e w7 ⟨rfl, hw7⟩
    refine hK.out _ _ (hw7) (fun hHeldw7 => ?_)
    clear hK K
    try simp only [Act.put, List.setIfInBounds_toArray, List.set_cons_zero, List.set_cons_succ]
    refine wpAnyH_ready (rs := [100]) (by kernel_rfl) (by simp) ?_
    refine AllReadyH.cons (o := _) rfl (fun K hK => ?_) AllReadyH.nil
    rw [if_pos (by kernel_rfl)]
    go_simp
    refine (CK.out _ (by assumption)).mono ?_
    rintro e w8 ⟨rfl, hw8⟩
    refine hK.out _ _ (hw8) (fun hHeldw8 => ?_)
    clear hK K
    try simp only [Act.put, List.setIfInBounds_toArray, List.set_cons_zero, List.set_cons_succ]
    refine wpAnyH_take (i := 101) (v := .bool e14) rfl hns.out (by decide +kernel) (by decide +kernel) (fun _ _ _ h => h) (Or.inl ⟨by kernel_rfl, fun w hSw => by have := E14.out; go_simp⟩) (by assumption) ?_
    change wpAnyH _ _ _ _ _ _ _ (Act.put _ (some 106) _) _
    try simp only [Act.put, List.setIfInBounds_toArray, List.set_cons_zero, List.set_cons_succ]
    refine wpAnyH_take (i := 102) (v := .bool e14) rfl hns.out (by decide +kernel) (by decide +kernel) (fun _ _ _ h => h) (Or.inl ⟨by kernel_rfl, fun w hSw => by go_simp⟩) (by assumption) ?_
    change wpAnyH _ _ _ _ _ _ _ (Act.put _ (some 107) _) _
    try simp only [Act.put, List.setIfInBounds_toArray, List.set_cons_zero, List.set_cons_succ]
    refine wpAnyH_take (i := 103) (v := .bool e14) rfl hns.out (by decide +kernel) (by decide +kernel) (fun _ _ _ h => h) (Or.inl ⟨by kernel_rfl, fun w hSw => by go_simp⟩) (by assumption) ?_
    change wpAnyH _ _ _ _ _ _ _ (Act.put _ (some 108) _) _
    try simp only [Act.put, List.setIfInBounds_toArray, List.set_cons_zero, List.set_cons_succ]
    refine wpAnyH_take (i := 104) (v := bif e14 then .pointer (some ⟨B, 39, none⟩) else undef) rfl hns.out (by decide +kernel) (by decide +kernel) (fun _ _ _ h => h) ?hy104 (by assumption) ?_
    case hy104 =>
      clear hHeld
      cases e14 with
      | true => exact Or.inl ⟨by kernel_rfl, fun w hSw => by go_simp⟩
      | false => exact Or.inr ⟨by kernel_rfl, rfl⟩
    change wpAnyH _ _ _ _ _ _ _ (Act.put _ (some 109) _) _
    try simp only [Act.put, List.setIfInBounds_toArray, List.set_cons_zero, List.set_cons_succ]
    refine wpAnyH_take (i := 105) (v := bif e14 then .int .i64 G.frm else undef) rfl hns.out (by decide +kernel) (by decide +kernel) (fun _ _ _ h => h) ?hy105 (by assumption) ?_
    case hy105 =>
      clear hHeld
      cases e14 with
      | true => exact Or.inl ⟨by kernel_rfl, fun w hSw => by have := C39.out _ hSw; go_simp⟩
      | false => exact Or.inr ⟨by kernel_rfl, rfl⟩
    change wpAnyH _ _ _ _ _ _ _ (Act.put _ (some 110) _) _
    try simp only [Act.put, List.setIfInBounds_toArray, List.set_cons_zero, List.set_cons_succ]
    refine wpAnyH_take (i := 106) (v := bif e14 then .pointer (some ⟨B + 1, 39, none⟩) else undef) rfl hns.out (by decide +kernel) (by decide +kernel) (fun _ _ _ h => h) ?hy106 (by assumption) ?_
    case hy106 =>
      clear hHeld
      cases e14 with
      | true => exact Or.inl ⟨by kernel_rfl, fun w hSw => by go_simp⟩
      | false => exact Or.inr ⟨by kernel_rfl, rfl⟩
    change wpAnyH _ _ _ _ _ _ _ (Act.put _ (some 111) _) _
    try simp only [Act.put, List.setIfInBounds_toArray, List.set_cons_zero, List.set_cons_succ]
    refine wpAnyH_take (i := 107) (v := bif e14 then .int .i64 K.frm else undef) rfl hns.out (by decide +kernel) (by decide +kernel) (fun _ _ _ h => h) ?hy107 (by assumption) ?_
    case hy107 =>
      clear hHeld
      cases e14 with
      | true => exact Or.inl ⟨by kernel_rfl, fun w hSw => by have := D39.out _ hSw; go_simp⟩
      | false => exact Or.inr ⟨by kernel_rfl, rfl⟩
    change wpAnyH _ _ _ _ _ _ _ (Act.put _ (some 112) _) _
    try simp only [Act.put, List.setIfInBounds_toArray, List.set_cons_zero, List.set_cons_succ]
    refine wpAnyH_take (i := 108) (v := bif e14 then .bool e15 else undef) rfl hns.out (by decide +kernel) (by decide +kernel) (fun _ _ _ h => h) ?hy108 (by assumption) ?_
    case hy108 =>
      clear hHeld
      cases e14 with
      | true => exact Or.inl ⟨by kernel_rfl, fun w hSw => by have := E15.out; go_simp⟩
      | false => exact Or.inr ⟨by kernel_rfl, rfl⟩
    change wpAnyH _ _ _ _ _ _ _ (Act.put _ (some 113) _) _
    try simp only [Act.put, List.setIfInBounds_toArray, List.set_cons_zero, List.set_cons_succ]
    refine wpAnyH_take (i := 109) (v := .bool b15) rfl hns.out (by decide +kernel) (by decide +kernel) (fun _ _ _ h => h) ?hy109 (by assumption) ?_
    case hy109 =>
      clear hHeld
      rw [Hb15.out]
      clear Hb15
      cases e14 with
      | true => exact Or.inl ⟨by kernel_rfl, fun w hSw => by go_simp⟩
      | false => exact Or.inl ⟨by kernel_rfl, fun w hSw => by go_simp⟩
    change wpAnyH _ _ _ _ _ _ _ (Act.put _ (some 114) _) _
    try simp only [Act.put, List.setIfInBounds_toArray, List.set_cons_zero, List.set_cons_succ]
    refine wpAnyH_take (i := 110) (v := .bool b15) rfl hns.out (by decide +kernel) (by decide +kernel) (fun _ _ _ h => h) (Or.inl ⟨by kernel_rfl, fun w hSw => by go_simp⟩) (by assumption) ?_
    change wpAnyH _ _ _ _ _ _ _ (Act.put _ (some 115) _) _
    try simp only [Act.put, List.setIfInBounds_toArray, List.set_cons_zero, List.set_cons_succ]
    refine wpAnyH_take (i := 111) (v := bif b15 then .pointer (some ⟨B, 40, none⟩) else undef) rfl hns.out (by decide +kernel) (by decide +kernel) (fun _ _ _ h => h) ?hy111 (by assumption) ?_
    case hy111 =>
      clear hHeld
      cases b15 with
      | true => exact Or.inl ⟨by kernel_rfl, fun w hSw => by go_simp⟩
      | false => exact Or.inr ⟨by kernel_rfl, rfl⟩
    change wpAnyH _ _ _ _ _ _ _ (Act.put _ (some 116) _) _
    try simp only [Act.put, List.setIfInBounds_toArray, List.set_cons_zero, List.set_cons_succ]
    refine wpAnyH_take (i := 112) (v := bif b15 then .agg (idL G.bid).toArray else undef) rfl hns.out (by decide +kernel) (by decide +kernel) (fun _ _ _ h => h) ?hy112 (by assumption) ?_
    case hy112 =>
      clear hHeld
      cases b15 with
      | true => exact yieldsIf_load_mid (by kernel_rfl) 25 _ rfl B (40) (by kernel_rfl) (idL G.bid) _ (fun w hw => globL_bid (rangeAt_below R1.out hw.b)) Try.underlying25 rfl (szL25 G.bid)
      | false => exact Or.inr ⟨by kernel_rfl, rfl⟩
    change wpAnyH _ _ _ _ _ _ _ (Act.put _ (some 117) _) _
    try simp only [Act.put, List.setIfInBounds_toArray, List.set_cons_zero, List.set_cons_succ]
    refine wpAnyH_take (i := 113) (v := bif b15 then .pointer (some ⟨B + 1, 40, none⟩) else undef) rfl hns.out (by decide +kernel) (by decide +kernel) (fun _ _ _ h => h) ?hy113 (by assumption) ?_
    case hy113 =>
      clear hHeld
      cases b15 with
      | true => exact Or.inl ⟨by kernel_rfl, fun w hSw => by go_simp⟩
      | false => exact Or.inr ⟨by kernel_rfl, rfl⟩
    change wpAnyH _ _ _ _ _ _ _ (Act.put _ (some 118) _) _
    try simp only [Act.put, List.setIfInBounds_toArray, List.set_cons_zero, List.set_cons_succ]
    refine wpAnyH_take (i := 114) (v := bif b15 then .agg (idL K.bid).toArray else undef) rfl hns.out (by decide +kernel) (by decide +kernel) (fun _ _ _ h => h) ?hy114 (by assumption) ?_
    case hy114 =>
      clear hHeld
      cases b15 with
      | true => exact yieldsIf_load_mid (by kernel_rfl) 25 _ rfl (B + 1) (40) (by kernel_rfl) (idL K.bid) _ (fun w hw => globL_bid (rangeAt_below R2.out hw.b)) Try.underlying25 rfl (szL25 K.bid)
      | false => exact Or.inr ⟨by kernel_rfl, rfl⟩
    change wpAnyH _ _ _ _ _ _ _ (Act.put _ (some 119) _) _
    try simp only [Act.put, List.setIfInBounds_toArray, List.set_cons_zero, List.set_cons_succ]
    refine wpAnyH_take (i := 115) (v := bif b15 then .bool e16 else undef) rfl hns.out (by decide +kernel) (by decide +kernel) (fun _ _ _ h => h) ?hy115 (by assumption) ?_
    case hy115 =>
      clear hHeld
      cases b15 with
      | true => exact Or.inl ⟨by kernel_rfl, fun w hSw => by have := Qbid.out w; have := E16.out; go_simp⟩
      | false => exact Or.inr ⟨by kernel_rfl, rfl⟩
    change wpAnyH _ _ _ _ _ _ _ (Act.put _ (some 120) _) _
    try simp only [Act.put, List.setIfInBounds_toArray, List.set_cons_zero, List.set_cons_succ]
    refine wpAnyH_take (i := 116) (v := .bool b16) rfl hns.out (by decide +kernel) (by decide +kernel) (fun _ _ _ h => h) ?hy116 (by assumption) ?_
    case hy116 =>
      clear hHeld
      rw [Hb16.out]
      clear Hb16
      cases b15 with
      | true => exact Or.inl ⟨by kernel_rfl, fun w hSw => by go_simp⟩
      | false => exact Or.inl ⟨by kernel_rfl, fun w hSw => by go_simp⟩
    change wpAnyH _ _ _ _ _ _ _ (Act.put _ (some 121) _) _
    try simp only [Act.put, List.setIfInBounds_toArray, List.set_cons_zero, List.set_cons_succ]
    refine wpAnyH_take (i := 117) (v := .bool b16) rfl hns.out (by decide +kernel) (by decide +kernel) (fun _ _ _ h => h) (Or.inl ⟨by kernel_rfl, fun w hSw => by go_simp⟩) (by assumption) ?_
    change wpAnyH _ _ _ _ _ _ _ (Act.put _ (some 4) _) _
    try simp only [Act.put, List.setIfInBounds_toArray, List.set_cons_zero, List.set_cons_succ]
    refine wpAnyH_done (by kernel_rfl) ?_ _
    have KK : Hid (Keeps W1 w8) := hw8
    clear hHeld hHeldw7 hHeldw8 hw7 hw8
    go_wp2_with fail
    go_ret
    exact wePost b16 rfl RT.out.yes (bthen B1.out KK.out.b)
  | false =>
    refine wpAnyH_take (i := 98) (v := undef) rfl hns.out (by decide +kernel) (by decide +kernel) (fun _ _ _ h => h) (Or.inr ⟨by kernel_rfl, rfl⟩) (by assumption) ?_
    change wpAnyH _ _ _ _ _ _ _ (Act.put _ (some 103) _) _
    try simp only [Act.put, List.setIfInBounds_toArray, List.set_cons_zero, List.set_cons_succ]
    refine wpAnyH_take (i := 100) (v := undef) rfl hns.out (by decide +kernel) (by decide +kernel) (fun _ _ _ h => h) (Or.inr ⟨by kernel_rfl, rfl⟩) (by assumption) ?_
    change wpAnyH _ _ _ _ _ _ _ (Act.put _ (some 105) _) _
    try simp only [Act.put, List.setIfInBounds_toArray, List.set_cons_zero, List.set_cons_succ]
    refine wpAnyH_take (i := 101) (v := undef) rfl hns.out (by decide +kernel) (by decide +kernel) (fun _ _ _ h => h) (Or.inr ⟨by kernel_rfl, rfl⟩) (by assumption) ?_
    change wpAnyH _ _ _ _ _ _ _ (Act.put _ (some 106) _) _
    try simp only [Act.put, List.setIfInBounds_toArray, List.set_cons_zero, List.set_cons_succ]
    refine wpAnyH_take (i := 102) (v := .bool false) rfl hns.out (by decide +kernel) (by decide +kernel) (fun _ _ _ h => h) (Or.inl ⟨by kernel_rfl, fun w hSw => by go_simp⟩) (by assumption) ?_
    change wpAnyH _ _ _ _ _ _ _ (Act.put _ (some 107) _) _
    try simp only [Act.put, List.setIfInBounds_toArray, List.set_cons_zero, List.set_cons_succ]
    refine wpAnyH_take (i := 103) (v := .bool false) rfl hns.out (by decide +kernel) (by decide +kernel) (fun _ _ _ h => h) (Or.inl ⟨by kernel_rfl, fun w hSw => by go_simp⟩) (by assumption) ?_
    change wpAnyH _ _ _ _ _ _ _ (Act.put _ (some 108) _) _
    try simp only [Act.put, List.setIfInBounds_toArray, List.set_cons_zero, List.set_cons_succ]
    refine wpAnyH_take (i := 104) (v := undef) rfl hns.out (by decide +kernel) (by decide +kernel) (fun _ _ _ h => h) (Or.inr ⟨by kernel_rfl, rfl⟩) (by assumption) ?_
    change wpAnyH _ _ _ _ _ _ _ (Act.put _ (some 109) _) _
    try simp only [Act.put, List.setIfInBounds_toArray, List.set_cons_zero, List.set_cons_succ]
    refine wpAnyH_take (i := 105) (v := undef) rfl hns.out (by decide +kernel) (by decide +kernel) (fun _ _ _ h => h) (Or.inr ⟨by kernel_rfl, rfl⟩) (by assumption) ?_
    change wpAnyH _ _ _ _ _ _ _ (Act.put _ (some 110) _) _
    try simp only [Act.put, List.setIfInBounds_toArray, List.set_cons_zero, List.set_cons_succ]
    refine wpAnyH_take (i := 106) (v := undef) rfl hns.out (by decide +kernel) (by decide +kernel) (fun _ _ _ h => h) (Or.inr ⟨by kernel_rfl, rfl⟩) (by assumption) ?_
    change wpAnyH _ _ _ _ _ _ _ (Act.put _ (some 111) _) _
    try simp only [Act.put, List.setIfInBounds_toArray, List.set_cons_zero, List.set_cons_succ]
    refine wpAnyH_take (i := 107) (v := undef) rfl hns.out (by decide +kernel) (by decide +kernel) (fun _ _ _ h => h) (Or.inr ⟨by kernel_rfl, rfl⟩) (by assumption) ?_
    change wpAnyH _ _ _ _ _ _ _ (Act.put _ (some 112) _) _
    try simp only [Act.put, List.setIfInBounds_toArray, List.set_cons_zero, List.set_cons_succ]
    refine wpAnyH_take (i := 108) (v := undef) rfl hns.out (by decide +kernel) (by decide +kernel) (fun _ _ _ h => h) (Or.inr ⟨by kernel_rfl, rfl⟩) (by assumption) ?_
    change wpAnyH _ _ _ _ _ _ _ (Act.put _ (some 113) _) _
    try simp only [Act.put, List.setIfInBounds_toArray, List.set_cons_zero, List.set_cons_succ]
    refine wpAnyH_take (i := 109) (v := .bool false) rfl hns.out (by decide +kernel) (by decide +kernel) (fun _ _ _ h => h) (Or.inl ⟨by kernel_rfl, fun w hSw => by go_simp⟩) (by assumption) ?_
    change wpAnyH _ _ _ _ _ _ _ (Act.put _ (some 114) _) _
    try simp only [Act.put, List.setIfInBounds_toArray, List.set_cons_zero, List.set_cons_succ]
    refine wpAnyH_take (i := 110) (v := .bool false) rfl hns.out (by decide +kernel) (by decide +kernel) (fun _ _ _ h => h) (Or.inl ⟨by kernel_rfl, fun w hSw => by go_simp⟩) (by assumption) ?_
    change wpAnyH _ _ _ _ _ _ _ (Act.put _ (some 115) _) _
    try simp only [Act.put, List.setIfInBounds_toArray, List.set_cons_zero, List.set_cons_succ]
    refine wpAnyH_take (i := 111) (v := undef) rfl hns.out (by decide +kernel) (by decide +kernel) (fun _ _ _ h => h) (Or.inr ⟨by kernel_rfl, rfl⟩) (by assumption) ?_
    change wpAnyH _ _ _ _ _ _ _ (Act.put _ (some 116) _) _
    try simp only [Act.put, List.setIfInBounds_toArray, List.set_cons_zero, List.set_cons_succ]
    refine wpAnyH_take (i := 112) (v := undef) rfl hns.out (by decide +kernel) (by decide +kernel) (fun _ _ _ h => h) (Or.inr ⟨by kernel_rfl, rfl⟩) (by assumption) ?_
    change wpAnyH _ _ _ _ _ _ _ (Act.put _ (some 117) _) _
    try simp only [Act.put, List.setIfInBounds_toArray, List.set_cons_zero, List.set_cons_succ]
    refine wpAnyH_take (i := 113) (v := undef) rfl hns.out (by decide +kernel) (by decide +kernel) (fun _ _ _ h => h) (Or.inr ⟨by kernel_rfl, rfl⟩) (by assumption) ?_
    change wpAnyH _ _ _ _ _ _ _ (Act.put _ (some 118) _) _
    try simp only [Act.put, List.setIfInBounds_toArray, List.set_cons_zero, List.set_cons_succ]
    refine wpAnyH_take (i := 114) (v := undef) rfl hns.out (by decide +kernel) (by decide +kernel) (fun _ _ _ h => h) (Or.inr ⟨by kernel_rfl, rfl⟩) (by assumption) ?_
    change wpAnyH _ _ _ _ _ _ _ (Act.put _ (some 119) _) _
    try simp only [Act.put, List.setIfInBounds_toArray, List.set_cons_zero, List.set_cons_succ]
    refine wpAnyH_take (i := 115) (v := undef) rfl hns.out (by decide +kernel) (by decide +kernel) (fun _ _ _ h => h) (Or.inr ⟨by kernel_rfl, rfl⟩) (by assumption) ?_
    change wpAnyH _ _ _ _ _ _ _ (Act.put _ (some 120) _) _
    try simp only [Act.put, List.setIfInBounds_toArray, List.set_cons_zero, List.set_cons_succ]
    refine wpAnyH_take (i := 116) (v := .bool false) rfl hns.out (by decide +kernel) (by decide +kernel) (fun _ _ _ h => h) (Or.inl ⟨by kernel_rfl, fun w hSw => by go_simp⟩) (by assumption) ?_
    change wpAnyH _ _ _ _ _ _ _ (Act.put _ (some 121) _) _
    try simp only [Act.put, List.setIfInBounds_toArray, List.set_cons_zero, List.set_cons_succ]
    refine wpAnyH_take (i := 117) (v := .bool false) rfl hns.out (by decide +kernel) (by decide +kernel) (fun _ _ _ h => h) (Or.inl ⟨by kernel_rfl, fun w hSw => by go_simp⟩) (by assumption) ?_
    change wpAnyH _ _ _ _ _ _ _ (Act.put _ (some 4) _) _
    try simp only [Act.put, List.setIfInBounds_toArray, List.set_cons_zero, List.set_cons_succ]
    refine wpAnyH_done (by kernel_rfl) ?_ _
    clear hHeld
    go_wp2_with fail
    go_ret
    exact wePost false rfl RF.out.no (bthen B1.out (Below.refl _ W1).drew)

theorem writtenEqual_calls (G K : Glob) (hG : G.Ok) (hK : K.Ok) (w : World) :
    Calls Try.prog 22 #[.agg (globL G).toArray, .agg (globL K).toArray] w fun e w' => ∃ b : Bool, e = .returned (.bool b) ∧ (b = true ↔ same G K) ∧ Below w.heap.size w w' := writtenEqual_post G K hG hK w

end Go.Proofs.Qxb6614450a.W
