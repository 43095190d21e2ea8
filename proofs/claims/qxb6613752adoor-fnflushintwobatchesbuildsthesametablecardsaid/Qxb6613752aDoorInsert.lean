import Derived.Test.Qxb6613752aDoorSmall
import Derived.Test.Qxb6613752aDoorTable
namespace Go.Proofs.Qxb6613752aDoor.W
open Go.RowKit

/-- At offset o of the text stands the name l, plain, between quotes. -/
def Closes (z : Nat → Nat) (L o : Nat) (l : List UInt8) : Prop :=
  o + 1 + l.length < L ∧ (∀ j (hj : j < l.length), z (o + 1 + j) = l[j].toNat ∧ l[j].toNat ≠ 34 ∧ l[j].toNat ≠ 92) ∧ z (o + 1 + l.length) = 34

theorem Sl.below {w w' : World} {v : Value} {l : List UInt8} (h : Sl w v l) (k : Below w.heap.size w w') : Sl w' v l := by
  obtain ⟨a, c, rfl, h⟩ := h
  refine ⟨a, c, rfl, ?_⟩
  rcases h with rfl | ⟨b, o, rfl, h⟩
  · exact .inl rfl
  · exact .inr ⟨b, o, rfl, fun j hj => (k.cell (p := ⟨b, o + j, none⟩) (cell_lt (h j hj))).trans (h j hj)⟩

theorem below_alloc (w : World) (o : Obj) : Below w.heap.size w (w.alloc o) := (Below.refl _ _).alloc (Nat.le_refl _) _

theorem tabf_tag (T : Nat → Nat × Nat) (i : Nat) : tabf T (i * 5) = .int .u8 ((T i).1 : Nat) := by
  unfold tabf
  rw [if_pos (by omega), show i * 5 / 5 = i by omega]

theorem tabf_byte (T : Nat → Nat × Nat) (i j : Nat) (hj : j < 4) : tabf T (i * 5 + 1 + j) = .int .u8 ((((T i).2 / 256 ^ j) % 256 : Nat) : Int) := by
  unfold tabf
  rw [if_neg (by omega), show (i * 5 + 1 + j) / 5 = i by omega, show (i * 5 + 1 + j) % 5 - 1 = j by omega]

theorem le4 (v : Nat) (h : v < 4294967296) : v / 256 ^ 0 % 256 + 256 * (v / 256 ^ 1 % 256 + 256 * (v / 256 ^ 2 % 256 + 256 * (v / 256 ^ 3 % 256))) = v := by
  simp only [Nat.pow_zero, Nat.pow_one, show (256 : Nat) ^ 2 = 65536 from rfl, show (256 : Nat) ^ 3 = 16777216 from rfl, Nat.div_one]
  omega

/-- The slot's number, read. -/
theorem heldNum_calls (tb N i : Nat) (T : Nat → Nat × Nat) (w : World) (hi : i < N) (ht : w.rowIs tb 66 (N * 5) (tabf T)) (hv : (T i).2 < 4294967296) :
    Calls Tryd.prog 39 #[.agg #[], .slice (some ⟨tb, i * 5 + 1, none⟩) 4 4] w fun e w' => e = .returned (.int .u32 (((T i).2 : Nat) : Int)) ∧ Below w.heap.size w w' := by
  have c : ∀ j, j < 4 → w.cell? ⟨tb, i * 5 + 1 + j, none⟩ = some (.int .u8 ((((T i).2 / 256 ^ j) % 256 : Nat) : Int)) := fun j hj => by
    rw [ht.cell (i := i * 5 + 1 + j) (by omega), tabf_byte T i j hj]
  have m : ∀ j, (T i).2 / 256 ^ j % 256 < 256 := fun j => Nat.mod_lt _ (by decide)
  have := uint32_calls tb (i * 5 + 1) 4 4 _ _ _ _ w (Nat.le_refl _) (m 0) (m 1) (m 2) (m 3) (c 0 (by decide)) (c 1 (by decide)) (c 2 (by decide)) (c 3 (by decide))
  rwa [le4 _ hv] at this

/-- Of what was there only block b may have turned. -/
def Only (b : Nat) (w w' : World) : Prop := ∀ k, k < w.heap.size → k ≠ b → w'.heap[k]? = w.heap[k]?

theorem Only.setCell {b : Nat} {w w' : World} (h : Only b w w') (o : Nat) (v : Value) : Only b w (w'.setCell ⟨b, o, none⟩ v) := fun k hk hb => by
  rw [Below.heap_setCell _ _ _ _ hb]
  exact h k hk hb

theorem Only.alloc {b : Nat} {w w' : World} (h : Only b w w') (hs : w.heap.size ≤ w'.heap.size) (x : Obj) : Only b w (w'.alloc x) := fun k hk hb => by
  rw [Below.heap_alloc _ _ _ (by omega)]
  exact h k hk hb

theorem Only.refl (b : Nat) (w : World) : Only b w w := fun _ _ _ => rfl
theorem Only.drew {b : Nat} {w w' : World} (h : Only b w w') : Only b w w'.drew := h

theorem only_below {b : Nat} {w w' : World} (h : Below w.heap.size w w') : Only b w w' := fun k hk _ => h.block k hk

theorem Only.trans {b : Nat} {w w' w'' : World} (h : Only b w w') (hs : w.heap.size ≤ w'.heap.size) (k : Only b w' w'') : Only b w w'' := fun i hi hb => (k i (by omega) hb).trans (h i hi hb)

theorem Only.cell {b : Nat} {w w' : World} (h : Only b w w') {p : Addr} {v : Value} (hc : w.cell? p = some v) (hb : p.block ≠ b) : w'.cell? p = some v :=
  (World.cell?_of_block (w := w) (h p.block (cell_lt hc) hb)).trans hc

theorem rowIs_only {w w' : World} {b' b t n : Nat} {f : Nat → Value} (h : w.rowIs b t n f) (k : Only b' w w') (hb : b ≠ b') : w'.rowIs b t n f := h.of_block (k b h.lt hb)

theorem Dup.only {w w' : World} {B db M b : Nat} {D : Option (Nat → Int)} (h : Dup w B db M D) (k : Only b w w') (h1 : db ≠ b) (h2 : ∀ x d, w.rowIs x 43 M d → x ≠ b) : Dup w' B db M D := by
  cases D with
  | none => exact rowIs_only h k h1
  | some d =>
    obtain ⟨xb, hx, r1, r2⟩ := h
    exact ⟨xb, hx, rowIs_only r1 k h1, rowIs_only r2 k (h2 xb _ r2)⟩

theorem NS.tabOnly {w w' : World} {B nb tb db N M : Nat} {sv : Value} {bf : Nat → Value} {held touched : Int} {T T' : Nat → Nat × Nat} {D : Option (Nat → Int)}
    (h : NS w B nb tb db N M sv bf held touched T D) (k : Only tb w w') (ht : w'.rowIs tb 66 (N * 5) (tabf T')) : NS w' B nb tb db N M sv bf held touched T' D :=
  ⟨h.bn, h.bt, h.bd, rowIs_only h.set k (rowIs_ne h.set h.tab (by decide)), ht,
    h.dup.only k (by
      have h3 := h.dup
      have h4 := h.tab
      cases D with
      | none => exact rowIs_ne h3 h4 (by decide)
      | some d => obtain ⟨xb, _, r1, _⟩ := h3; exact rowIs_ne r1 h4 (by decide)) (fun x d hd => rowIs_ne hd h.tab (by decide))⟩

theorem tabf_put (T : Nat → Nat × Nat) (k t v i : Nat) :
    (if i = k * 5 + 1 + 3 then Value.int .u8 ((v / 16777216 % 256 : Nat) : Int) else if i = k * 5 + 1 + 2 then .int .u8 ((v / 65536 % 256 : Nat) : Int) else if i = k * 5 + 1 + 1 then .int .u8 ((v / 256 % 256 : Nat) : Int) else if i = k * 5 + 1 then .int .u8 ((v % 256 : Nat) : Int) else if i = k * 5 then .int .u8 (t : Nat) else tabf T i) = tabf (Tb.put T k (t, v)) i := by
  by_cases h : i / 5 = k
  · have h5 : i % 5 = 0 ∨ i % 5 = 1 ∨ i % 5 = 2 ∨ i % 5 = 3 ∨ i % 5 = 4 := by omega
    unfold tabf Tb.put
    rw [h]
    rcases h5 with e | e | e | e | e
    · rw [if_neg (by omega), if_neg (by omega), if_neg (by omega), if_neg (by omega), if_pos (by omega), if_pos e]; simp
    · rw [if_neg (by omega), if_neg (by omega), if_neg (by omega), if_pos (by omega), if_neg (by omega), e]; simp
    · rw [if_neg (by omega), if_neg (by omega), if_pos (by omega), if_neg (by omega), e]; simp
    · rw [if_neg (by omega), if_pos (by omega), if_neg (by omega), e]; simp
    · rw [if_pos (by omega), if_neg (by omega), e]; simp
  · rw [if_neg (by omega), if_neg (by omega), if_neg (by omega), if_neg (by omega), if_neg (by omega)]
    unfold tabf Tb.put
    rw [if_neg h]

/-- The table behind the stores of a tag and a number into slot k. -/
theorem NS.put {w : World} {B nb tb db N M : Nat} {sv : Value} {bf : Nat → Value} {held touched : Int} {T : Nat → Nat × Nat} {D : Option (Nat → Int)}
    (h : NS w B nb tb db N M sv bf held touched T D) (k t v : Nat) :
    NS ((((((w.setCell ⟨tb, k * 5, none⟩ (.int .u8 (t : Nat))).drew.alloc (.cells #[] 71)).setCell ⟨tb, k * 5 + 1, none⟩ (.int .u8 ((v % 256 : Nat) : Int))).setCell ⟨tb, k * 5 + 1 + 1, none⟩ (.int .u8 ((v / 256 % 256 : Nat) : Int))).setCell ⟨tb, k * 5 + 1 + 2, none⟩ (.int .u8 ((v / 65536 % 256 : Nat) : Int))).setCell ⟨tb, k * 5 + 1 + 3, none⟩ (.int .u8 ((v / 16777216 % 256 : Nat) : Int)))
      B nb tb db N M sv bf held touched (Tb.put T k (t, v)) D := by
  refine h.tabOnly ?_ ?_
  · exact ((((((Only.refl _ _).setCell _ _).drew.alloc (by simp) _).setCell _ _).setCell _ _).setCell _ _).setCell _ _
  · exact ((((((h.tab.set (k * 5) _).drew.alloc _).set (k * 5 + 1) _).set (k * 5 + 1 + 1) _).set (k * 5 + 1 + 2) _).set (k * 5 + 1 + 3) _).congr fun i _ => tabf_put T k t v i

theorem below_drewN {B : Nat} (w : World) (m : Nat) : Below B w (w.drewN m) := ⟨rfl, rfl, rfl, Nat.le_refl _, fun _ _ => rfl⟩

theorem closing_at (g L : Nat) (z : Nat → Nat) (vk : Nat) (lk : List UInt8) (w : World) (hT : Tab w) (hz : Bytes w g 0 L z) (hL : L ≤ 1048576) (h1 : 1 ≤ vk) (hc : Closes z L (vk - 1) lk) :
    Calls Tryd.prog 25 #[.slice (some ⟨g, 0, none⟩) L L, .int .i64 ((vk : Int) - 1)] w fun r w' => r = .returned (.tuple #[.int .i64 ((vk + lk.length : Nat) : Int), .bool false]) ∧ Below w.heap.size w w' := by
  obtain ⟨a1, a2, a3⟩ := hc
  have e : vk - 1 + 1 = vk := by omega
  rw [e] at a1 a3
  have := closingQuote_calls g 0 L L z (vk - 1) (vk + lk.length) w hT hz hL (Nat.le_refl _) (by omega) a1 (fun j h1 h2 => by
    have := a2 (j - vk) (by omega)
    rw [e, show vk + (j - vk) = j by omega] at this
    rw [this.1]
    exact this.2) a3
  rwa [show ((vk - 1 : Nat) : Int) = (vk : Int) - 1 by omega] at this

theorem closes_sl (g L : Nat) (z : Nat → Nat) (vk : Nat) (lk : List UInt8) (w : World) (hz : Bytes w g 0 L z) (h1 : 1 ≤ vk) (hc : Closes z L (vk - 1) lk) :
    Sl w (.slice (some ⟨g, vk, none⟩) lk.length (L - vk)) lk := by
  obtain ⟨a1, a2, a3⟩ := hc
  have e : vk - 1 + 1 = vk := by omega
  rw [e] at a1 a2
  refine ⟨_, _, rfl, .inr ⟨g, vk, rfl, fun j hj => ?_⟩⟩
  have := (hz (vk + j) (by omega)).2
  rw [(a2 j hj).1, Nat.zero_add] at this
  exact this

set_option maxHeartbeats 2000000 in
set_option maxRecDepth 100000 in
theorem insert_calls (B nb tb db N M g L : Nat) (z : Nat → Nat) (bf : Nat → Value) (held touched : Int) (T : Nat → Nat × Nat) (D : Option (Nat → Int)) (nm : Nat → List UInt8)
    (a : Option Addr) (n c : Nat) (l : List UInt8) (o : Nat) (mk : Bool) (h : Nat) (w : World)
    (hN0 : 0 < N) (hN : N ≤ 65536) (hL : L ≤ 1048576) (ho : o < 1048576) (hh : h < 18446744073709551616) (hT : Tab w) (hz : Bytes w g 0 L z) (hg : g < w.heap.size)
    (hns : NS w B nb tb db N M (.slice (some ⟨g, 0, none⟩) L L) bf held touched T D) (hv : Sl w (.slice a n c) l)
    (hgood : ∀ i, i < N → (T i).2 ≠ 0 → Closes z L ((T i).2 - 1) (nm ((T i).2 - 1))) (hval : ∀ i, i < N → (T i).1 < 256 ∧ (T i).2 ≤ 1048576) (hfree : Tb.Free N T N (homeOf N h)) :
    Calls Tryd.prog 35 #[.pointer (some ⟨nb, 0, none⟩), .agg #[.slice a n c, .int .i32 o, .bool mk, .int .u64 h]] w fun e w' =>
      e = .returned (.bool (Tb.look N nm T (h / 72057594037927936) l N (homeOf N h)).2) ∧ Below B w w' ∧ Only tb w w' ∧
      NS w' B nb tb db N M (.slice (some ⟨g, 0, none⟩) L L) bf held touched (if (Tb.look N nm T (h / 72057594037927936) l N (homeOf N h)).2 then Tb.put T (Tb.look N nm T (h / 72057594037927936) l N (homeOf N h)).1 (h / 72057594037927936, o + 1) else T) D := by
  have b1 := below_alloc w (.cells #[.slice a n c, .int .i32 o, .bool mk, .int .u64 h] 61)
  have n1 := hns.below b1
  have hnb : nb < w.heap.size := hns.set.lt
  have htb : tb < w.heap.size := hns.tab.lt
  have HNS : Hid (NS (w.alloc (.cells #[.slice a n c, .int .i32 o, .bool mk, .int .u64 h] 61)) B nb tb db N M (.slice (some ⟨g, 0, none⟩) L L) bf held touched T D) := n1
  have HT : Hid (Tab (w.alloc (.cells #[.slice a n c, .int .i32 o, .bool mk, .int .u64 h] 61))) := hT.below b1 hT.lt
  have HZ : Hid (Bytes (w.alloc (.cells #[.slice a n c, .int .i32 o, .bool mk, .int .u64 h] 61)) g 0 L z) := hz.below b1 hg
  have HV : Hid (Sl (w.alloc (.cells #[.slice a n c, .int .i32 o, .bool mk, .int .u64 h] 61)) (.slice a n c) l) := hv.below b1
  have HB : Hid (∀ w', Below (w.heap.size + 1) (w.alloc (.cells #[.slice a n c, .int .i32 o, .bool mk, .int .u64 h] 61)) w' → Below w.heap.size w w') := fun w' k => b1.trans (k.mono (by omega))
  have s2 : (w.alloc (.cells #[.slice a n c, .int .i32 o, .bool mk, .int .u64 h] 61)).cell? ⟨nb, 2, none⟩ = some (.slice (some ⟨tb, 0, none⟩) N N) := n1.set.cell (i := 2) (by decide)
  have Hhome : Hid (∀ w, w.cell? ⟨nb, 2, none⟩ = some (.slice (some ⟨tb, 0, none⟩) N N) → Calls Tryd.prog 34 #[.pointer (some ⟨nb, 0, none⟩), .int .u64 h] w fun e w' => e = .returned (.int .i64 (homeOf N h : Nat)) ∧ w' = w) := fun w hc => home_calls nb tb N h w hN hh hc
  have HG : Hid (∀ i, i < N → (T i).2 ≠ 0 → Closes z L ((T i).2 - 1) (nm ((T i).2 - 1))) := hgood
  have HVal : Hid (∀ i, i < N → (T i).1 < 256 ∧ (T i).2 ≤ 1048576) := hval
  have hm := homeOf_lt N h hN0
  have HF : Hid (Tb.Free N T N (homeOf N h)) := hfree
  obtain ⟨R, hR⟩ : ∃ R, R = Tb.look N nm T (h / 72057594037927936) l N (homeOf N h) := ⟨_, rfl⟩
  rw [← hR]
  have HR : Hid (R = Tb.look N nm T (h / 72057594037927936) l N (homeOf N h)) := hR
  clear hR n1 b1 hns hT hz hv hgood hval hfree
  generalize homeOf N h = hm0 at *
  go_enter Tryd.func35, Tryd.ntmps35
  go_wp2_with (go_at_call 34; refine (Hhome.out _ s2).mono ?_; rintro e w' ⟨rfl, rfl⟩)
  go_loopg [6] N (fun gk i wr => ∃ k : Nat, k < N ∧ i = .int .i64 k ∧ Hid (R = Tb.look N nm T (h / 72057594037927936) l gk k) ∧ Hid (Tb.Free N T gk k) ∧ Hid (Below (w.heap.size + 1) (w.alloc (.cells #[.slice a n c, .int .i32 o, .bool mk, .int .u64 h] 61)) wr))
  case atStart => exact ⟨hm0, hm, rfl, HR, HF, Below.refl _ _⟩
  case round =>
    obtain ⟨k, hk, rfl, HRk, HFk, hb⟩ := hrel
    have hb1 : Below (w.alloc (.cells #[.slice a n c, .int .i32 o, .bool mk, .int .u64 h] 61)).heap.size (w.alloc (.cells #[.slice a n c, .int .i32 o, .bool mk, .int .u64 h] 61)) wr := by simpa using hb.out
    have NR : Hid (NS wr B nb tb db N M (.slice (some ⟨g, 0, none⟩) L L) bf held touched T D) := HNS.out.below hb1
    have TR : Hid (Tab wr) := HT.out.below hb1 HT.out.lt
    have ZR : Hid (Bytes wr g 0 L z) := HZ.out.below hb1 (by simp; omega)
    have VR : Hid (Sl wr (.slice a n c) l) := HV.out.below hb1
    have BR : Hid (Below w.heap.size w wr) := HB.out _ hb.out
    have q0 : wr.cell? ⟨w.heap.size, 0, none⟩ = some (.slice a n c) := (hb1.cell (p := ⟨w.heap.size, 0, none⟩) (by simp)).trans (by simp)
    have q1 : wr.cell? ⟨w.heap.size, 1, none⟩ = some (.int .i32 o) := (hb1.cell (p := ⟨w.heap.size, 1, none⟩) (by simp)).trans (by simp)
    have hsz : w.heap.size < wr.heap.size := by have := hb.out.size; simp at this; omega
    have c2 : wr.cell? ⟨nb, 2, none⟩ = some (.slice (some ⟨tb, 0, none⟩) N N) := NR.out.set.cell (i := 2) (by decide)
    have c0 : wr.cell? ⟨nb, 0, none⟩ = some (.slice (some ⟨g, 0, none⟩) L L) := NR.out.set.cell (i := 0) (by decide)
    have ct : wr.cell? ⟨tb, k * 5, none⟩ = some (.int .u8 ((T k).1 : Nat)) := by rw [NR.out.tab.cell (i := k * 5) (by omega), tabf_tag]
    have hvk := HVal.out k hk
    have U : Hid (∀ W, Below wr.heap.size wr W → Calls Tryd.prog 39 #[.agg #[], .slice (some ⟨tb, k * 5 + 1, none⟩) 4 4] W fun e w' => e = .returned (.int .u32 (((T k).2 : Nat) : Int)) ∧ Below W.heap.size W w') :=
      fun W hW => heldNum_calls tb N k T W hk (rowIs_below NR.out.tab hW NR.out.tab.lt) (by omega)
    have GK : Hid ((T k).2 ≠ 0 → Closes z L ((T k).2 - 1) (nm ((T k).2 - 1))) := HG.out k hk
    have PK : Hid (NS wr B nb tb db N M (.slice (some ⟨g, 0, none⟩) L L) bf held touched T D) := NR
    have frt : wr.frozen? ⟨tb, k * 5, none⟩ = false := NR.out.tab.frozen _
    have HBR : Hid (Below (w.heap.size + 1) (w.alloc (.cells #[.slice a n c, .int .i32 o, .bool mk, .int .u64 h] 61)) wr) := hb
    clear hb1 hb
    by_cases hv0 : (T k).2 = 0
    · -- a free slot: the name is put here
      have hR : R = (k, true) := by
        rw [HRk.out]
        cases gk with
        | zero => exact absurd HFk.out (fun h => h)
        | succ f => rw [Tb.look, if_pos hv0]
      have U0 : Hid (∀ W, Below wr.heap.size wr W → Calls Tryd.prog 39 #[.agg #[], .slice (some ⟨tb, k * 5 + 1, none⟩) 4 4] W fun e w' => e = .returned (.int .u32 0) ∧ Below W.heap.size W w') := by
        have := U.out
        rw [hv0] at this
        exact this
      clear U hv0 hvk GK
      subst hR
      generalize (T k).1 = tk at *
      go_wp2_with fail
      go_region_with (go_at_call 39; refine (U0.out _ ((Below.refl _ _).drew)).mono ?_; rintro e w2 ⟨rfl, hb2⟩)
      have bW : Below wr.heap.size wr w2 := ((Below.refl _ wr).drew).trans hb2
      have N2 : Hid (NS w2 B nb tb db N M (.slice (some ⟨g, 0, none⟩) L L) bf held touched T D) := NR.out.below bW
      have B2 : Hid (Below w.heap.size w w2) := BR.out.trans (bW.mono (by omega))
      have q12 : w2.cell? ⟨w.heap.size, 1, none⟩ = some (.int .i32 o) := (bW.cell (p := ⟨w.heap.size, 1, none⟩) hsz).trans q1
      have ct2 : w2.cell? ⟨tb, k * 5, none⟩ = some (.int .u8 tk) := (bW.cell (p := ⟨tb, k * 5, none⟩) (by show tb < _; omega)).trans ct
      have fr2 : w2.frozen? ⟨tb, k * 5, none⟩ = false := N2.out.tab.frozen _
      have hne : ¬ w.heap.size = tb := by omega
      have T2 := (N2.out.tab.set (k * 5) (.int .u8 ((h / 72057594037927936 : Nat) : Int))).drew
      have P2 := putUint32_calls tb (k * 5 + 1) 4 4 66 _ (N * 5) (o + 1) _ T2 (by omega) (Nat.le_refl _) (by omega)
      have PN := N2.out.put k (h / 72057594037927936) (o + 1)
      rw [show ((o + 1 : Nat) : Int) = IntKind.u32.wrap (IntKind.u32.wrap (o : Int) + 1) by rw [IntKind.wrap_u32, IntKind.wrap_u32]; omega] at P2
      rw [show ((h / 72057594037927936 : Nat) : Int) = (h : Int) / 72057594037927936 by omega] at P2 PN
      have bP := ((((((Below.refl B w2).setCell (p := ⟨tb, k * 5, none⟩) N2.out.bt (.int .u8 ((h : Int) / 72057594037927936))).drew.alloc (by have := N2.out.bt; have := N2.out.tab.lt; simp; omega) (.cells #[] 71)).setCell (p := ⟨tb, k * 5 + 1, none⟩) N2.out.bt (.int .u8 (((o + 1) % 256 : Nat) : Int))).setCell (p := ⟨tb, k * 5 + 1 + 1, none⟩) N2.out.bt (.int .u8 (((o + 1) / 256 % 256 : Nat) : Int))).setCell (p := ⟨tb, k * 5 + 1 + 2, none⟩) N2.out.bt (.int .u8 (((o + 1) / 65536 % 256 : Nat) : Int))).setCell (p := ⟨tb, k * 5 + 1 + 3, none⟩) N2.out.bt (.int .u8 (((o + 1) / 16777216 % 256 : Nat) : Int))
      have oP := ((((((Only.refl tb w2).setCell (k * 5) (.int .u8 ((h : Int) / 72057594037927936))).drew.alloc (by simp) (.cells #[] 71)).setCell (k * 5 + 1) (.int .u8 (((o + 1) % 256 : Nat) : Int))).setCell (k * 5 + 1 + 1) (.int .u8 (((o + 1) / 256 % 256 : Nat) : Int))).setCell (k * 5 + 1 + 2) (.int .u8 (((o + 1) / 65536 % 256 : Nat) : Int))).setCell (k * 5 + 1 + 3) (.int .u8 (((o + 1) / 16777216 % 256 : Nat) : Int))
      generalize ((((((w2.setCell ⟨tb, k * 5, none⟩ (.int .u8 ((h : Int) / 72057594037927936))).drew.alloc (.cells #[] 71)).setCell ⟨tb, k * 5 + 1, none⟩ (.int .u8 (((o + 1) % 256 : Nat) : Int))).setCell ⟨tb, k * 5 + 1 + 1, none⟩ (.int .u8 (((o + 1) / 256 % 256 : Nat) : Int))).setCell ⟨tb, k * 5 + 1 + 2, none⟩ (.int .u8 (((o + 1) / 65536 % 256 : Nat) : Int))).setCell ⟨tb, k * 5 + 1 + 3, none⟩ (.int .u8 (((o + 1) / 16777216 % 256 : Nat) : Int))) = w3 at P2 PN bP oP
      have PP : Hid (Calls Tryd.prog 40 #[.agg #[], .slice (some ⟨tb, k * 5 + 1, none⟩) 4 4, .int .u32 (IntKind.u32.wrap (IntKind.u32.wrap (o : Int) + 1))] (w2.setCell ⟨tb, k * 5, none⟩ (.int .u8 ((h : Int) / 72057594037927936))).drew fun e w' => e = .returned (.tuple #[]) ∧ w' = w3) := P2
      have bB : Below B w w3 := (B2.out.mono (by have := N2.out.bt; omega)).trans bP
      have oO : Only tb w w3 := (only_below B2.out).trans B2.out.size oP
      clear hb2 bW T2 P2 q0 q1 ct c2 c0 frt bP oP
      go_wp2_with fail
      go_region_with (go_at_call 40; refine PP.out.mono ?_; rintro e w' ⟨rfl, rfl⟩)
      all_goals
        go_wp2_with fail
        go_ret
        exact ⟨rfl, bB, oO, PN⟩
    · obtain ⟨f, rfl⟩ : ∃ f, gk = f + 1 := by
        cases gk with
        | zero => exact absurd HFk.out (fun h => h)
        | succ f => exact ⟨f, rfl⟩
      have FN0 : Tb.Free N T f (if k + 1 = N then 0 else k + 1) := by
        rcases HFk.out with h | h
        · exact absurd h hv0
        · exact h
      have e0 : (((T k).2 : Int) == 0) = false := by rw [beq_eq_false_iff_ne]; omega
      have hlk : Tb.look N nm T (h / 72057594037927936) l (f + 1) k = if (T k).1 = h / 72057594037927936 ∧ nm ((T k).2 - 1) = l then (k, false) else Tb.look N nm T (h / 72057594037927936) l f (if k + 1 = N then 0 else k + 1) := by
        rw [Tb.look, if_neg hv0]
      have HRk2 := HRk.out
      rw [hlk] at HRk2
      have GK2 := GK.out hv0
      obtain ⟨bs1, bs2⟩ := hvk
      clear GK hlk HRk HFk hv0
      generalize hTk : (T k).2 = vk at *
      generalize (T k).1 = tk at *
      by_cases htag : tk = h / 72057594037927936
      · have et : ((tk : Int) == (h : Int) / 72057594037927936) = true := by rw [beq_iff_eq]; omega
        have hvk1 : 1 ≤ vk := by have := beq_eq_false_iff_ne.1 e0; omega
        clear hTk
        generalize nm (vk - 1) = lk at *
        obtain ⟨ed, hed⟩ : ∃ ed, ed = vk + lk.length := ⟨_, rfl⟩
        have CQ : Hid (∀ W, Below wr.heap.size wr W → Calls Tryd.prog 25 #[.slice (some ⟨g, 0, none⟩) L L, .int .i64 ((vk : Int) - 1)] W fun r w' => r = .returned (.tuple #[.int .i64 (ed : Int), .bool false]) ∧ Below W.heap.size W w') :=
          fun W hW => by rw [hed]; exact closing_at g L z vk lk W (TR.out.below hW TR.out.lt) (ZR.out.below hW (by omega)) hL hvk1 GK2
        have hend : ed < L := by have := GK2.1; omega
        have hed2 : vk ≤ ed := by omega
        have LK : Hid (∀ W, Below wr.heap.size wr W → Sl W (.slice (some ⟨g, vk, none⟩) (ed - vk) (L - vk)) lk) :=
          fun W hW => by rw [hed, show vk + lk.length - vk = lk.length by omega]; exact closes_sl g L z vk lk W (ZR.out.below hW (by omega)) hvk1 GK2
        have VW : Hid (∀ W, Below wr.heap.size wr W → Sl W (.slice a n c) l) := fun W hW => VR.out.below hW
        clear hed
        clear GK2
        go_wp2_with fail
        go_region_with (go_at_call 39; refine (U.out _ ((Below.refl _ _).drew)).mono ?_; rintro e w2 ⟨rfl, hb2⟩)
        have bW : Below wr.heap.size wr w2 := ((Below.refl _ wr).drew).trans hb2
        have BW : Hid (Below wr.heap.size wr w2) := bW
        have ct2 : w2.cell? ⟨tb, k * 5, none⟩ = some (.int .u8 tk) := (bW.cell (p := ⟨tb, k * 5, none⟩) (by show tb < _; omega)).trans ct
        have c02 : w2.cell? ⟨nb, 0, none⟩ = some (.slice (some ⟨g, 0, none⟩) L L) := (bW.cell (p := ⟨nb, 0, none⟩) (by show nb < _; omega)).trans c0
        clear hb2 bW frt
        go_wp2_with (go_at_call 25; refine (CQ.out _ BW.out).mono ?_; rintro e w3 ⟨rfl, hb3⟩)
        have bW3 : Below wr.heap.size wr w3 := BW.out.trans (hb3.mono BW.out.size)
        have BW3 : Hid (Below wr.heap.size wr w3) := bW3
        have c03 : w3.cell? ⟨nb, 0, none⟩ = some (.slice (some ⟨g, 0, none⟩) L L) := (bW3.cell (p := ⟨nb, 0, none⟩) (by show nb < _; omega)).trans c0
        have q03 : w3.cell? ⟨w.heap.size, 0, none⟩ = some (.slice a n c) := (bW3.cell (p := ⟨w.heap.size, 0, none⟩) hsz).trans q0
        have hLv : ¬ L = vk := by omega
        clear hb3 bW3
        have EQ0 : Hid (∀ m, Calls Tryd.prog 41 #[.slice (some ⟨g, vk, none⟩) (ed - vk) (L - vk), .slice a n c] (w3.drewN m) fun e w' => e = .returned (.bool (lk == l)) ∧ w' = w3.drewN m) :=
          fun m => bytesEqual_calls _ _ lk l _ (LK.out _ (BW3.out.trans (below_drewN w3 m))) (VW.out _ (BW3.out.trans (below_drewN w3 m)))
        by_cases hlk : lk = l
        · have elk : (lk == l) = true := beq_iff_eq.2 hlk
          have EQ : Hid (∀ m, Calls Tryd.prog 41 #[.slice (some ⟨g, vk, none⟩) (ed - vk) (L - vk), .slice a n c] (w3.drewN m) fun e w' => e = .returned (.bool true) ∧ w' = w3.drewN m) := by
            have := EQ0.out
            rw [elk] at this
            exact this
          clear EQ0 elk
          go_quiet ((first | (go_at_call 42; exact Calls.quiet_of_same (decodedName_calls _ _ _ _)) | (go_at_call 41; exact Calls.quiet_of_same (EQ.out _))))
          rw [if_pos ⟨htag, hlk⟩] at HRk2
          subst HRk2
          have bB : Below B w (w3.drewN nq) := (BR.out.mono (by have := NR.out.bt; omega)).trans ((BW3.out.trans (below_drewN w3 nq)).mono (by have := NR.out.bt; omega))
          have nN : NS (w3.drewN nq) B nb tb db N M (.slice (some ⟨g, 0, none⟩) L L) bf held touched T D := NR.out.below (BW3.out.trans (below_drewN w3 nq))
          have BB : Hid (Below B w (w3.drewN nq)) := bB
          have OO : Hid (Only tb w (w3.drewN nq)) := only_below (BR.out.trans ((BW3.out.trans (below_drewN w3 nq)).mono (by omega)))
          have NN : Hid (NS (w3.drewN nq) B nb tb db N M (.slice (some ⟨g, 0, none⟩) L L) bf held touched T D) := nN
          clear bB nN hlk htag
          go_wp2_with fail
          go_ret
          exact ⟨rfl, BB.out, OO.out, NN.out⟩
        · have elk : (lk == l) = false := beq_eq_false_iff_ne.2 hlk
          have EQ : Hid (∀ m, Calls Tryd.prog 41 #[.slice (some ⟨g, vk, none⟩) (ed - vk) (L - vk), .slice a n c] (w3.drewN m) fun e w' => e = .returned (.bool false) ∧ w' = w3.drewN m) := by
            have := EQ0.out
            rw [elk] at this
            exact this
          clear EQ0 elk
          go_quiet ((first | (go_at_call 42; exact Calls.quiet_of_same (decodedName_calls _ _ _ _)) | (go_at_call 41; exact Calls.quiet_of_same (EQ.out _))))
          rw [if_neg (fun e => hlk e.2)] at HRk2
          have bN : Hid (Below (w.heap.size + 1) (w.alloc (.cells #[.slice a n c, .int .i32 o, .bool mk, .int .u64 h] 61)) (w3.drewN nq)) := HBR.out.trans ((BW3.out.trans (below_drewN w3 nq)).mono (by omega))
          have c23 : w3.cell? ⟨nb, 2, none⟩ = some (.slice (some ⟨tb, 0, none⟩) N N) := (BW3.out.cell (p := ⟨nb, 2, none⟩) (by show nb < _; omega)).trans c2
          clear hlk htag q0 q1 ct c2 c0 ct2 c02
          by_cases hkN : k + 1 = N
          · rw [if_pos hkN] at HRk2 FN0
            have RN : Hid (R = Tb.look N nm T (h / 72057594037927936) l f 0) := HRk2
            have FN : Hid (Tb.Free N T f 0) := FN0
            have eN : ((k : Int) + 1 == (N : Int)) = true := by rw [beq_iff_eq]; omega
            have KN : Hid (k + 1 = N) := hkN
            clear HRk2 FN0 hkN
            go_wp2_with fail
            go_roundg f
            case measure => omega
            case rel => exact ⟨0, by omega, by go_num, RN, FN, bN⟩
          · rw [if_neg hkN] at HRk2 FN0
            have RN : Hid (R = Tb.look N nm T (h / 72057594037927936) l f (k + 1)) := HRk2
            have FN : Hid (Tb.Free N T f (k + 1)) := FN0
            have eN : ((k : Int) + 1 == (N : Int)) = false := by rw [beq_eq_false_iff_ne]; omega
            clear HRk2 FN0
            go_wp2_with fail
            go_roundg f
            case measure => omega
            case rel => exact ⟨k + 1, by omega, by go_num, RN, FN, bN⟩
      · have et : ((tk : Int) == (h : Int) / 72057594037927936) = false := by rw [beq_eq_false_iff_ne]; omega
        rw [if_neg (fun e => htag e.1)] at HRk2
        clear htag GK2 hTk
        by_cases hkN : k + 1 = N
        · rw [if_pos hkN] at HRk2 FN0
          have RN : Hid (R = Tb.look N nm T (h / 72057594037927936) l f 0) := HRk2
          have FN : Hid (Tb.Free N T f 0) := FN0
          have eN : ((k : Int) + 1 == (N : Int)) = true := by rw [beq_iff_eq]; omega
          have KN : Hid (k + 1 = N) := hkN
          clear HRk2 FN0 hkN
          go_wp2_with fail
          go_region_with (go_at_call 39; refine (U.out _ ((Below.refl _ _).drew)).mono ?_; rintro e w2 ⟨rfl, hb2⟩)
          have bW : Below wr.heap.size wr w2 := ((Below.refl _ wr).drew).trans hb2
          have bN : Hid (Below (w.heap.size + 1) (w.alloc (.cells #[.slice a n c, .int .i32 o, .bool mk, .int .u64 h] 61)) w2) := HBR.out.trans (bW.mono (by omega))
          have ct2 : w2.cell? ⟨tb, k * 5, none⟩ = some (.int .u8 tk) := (bW.cell (p := ⟨tb, k * 5, none⟩) (by show tb < _; omega)).trans ct
          have c22 : w2.cell? ⟨nb, 2, none⟩ = some (.slice (some ⟨tb, 0, none⟩) N N) := (bW.cell (p := ⟨nb, 2, none⟩) (by show nb < _; omega)).trans c2
          clear hb2 bW q0 q1 ct c2 c0 frt
          go_wp2_with fail
          go_roundg f
          case measure => omega
          case rel => exact ⟨0, by omega, by go_num, RN, FN, bN⟩
        · rw [if_neg hkN] at HRk2 FN0
          have RN : Hid (R = Tb.look N nm T (h / 72057594037927936) l f (k + 1)) := HRk2
          have FN : Hid (Tb.Free N T f (k + 1)) := FN0
          have eN : ((k : Int) + 1 == (N : Int)) = false := by rw [beq_eq_false_iff_ne]; omega
          clear HRk2 FN0
          go_wp2_with fail
          go_region_with (go_at_call 39; refine (U.out _ ((Below.refl _ _).drew)).mono ?_; rintro e w2 ⟨rfl, hb2⟩)
          have bW : Below wr.heap.size wr w2 := ((Below.refl _ wr).drew).trans hb2
          have bN : Hid (Below (w.heap.size + 1) (w.alloc (.cells #[.slice a n c, .int .i32 o, .bool mk, .int .u64 h] 61)) w2) := HBR.out.trans (bW.mono (by omega))
          have ct2 : w2.cell? ⟨tb, k * 5, none⟩ = some (.int .u8 tk) := (bW.cell (p := ⟨tb, k * 5, none⟩) (by show tb < _; omega)).trans ct
          have c22 : w2.cell? ⟨nb, 2, none⟩ = some (.slice (some ⟨tb, 0, none⟩) N N) := (bW.cell (p := ⟨nb, 2, none⟩) (by show nb < _; omega)).trans c2
          clear hb2 bW q0 q1 ct c2 c0 frt
          go_wp2_with fail
          go_roundg f
          case measure => omega
          case rel => exact ⟨k + 1, by omega, by go_num, RN, FN, bN⟩

end Go.Proofs.Qxb6613752aDoor.W
