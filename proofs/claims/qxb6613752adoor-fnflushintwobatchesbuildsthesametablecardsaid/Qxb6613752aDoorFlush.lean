import Derived.Test.Qxb6613752aDoorAdd
namespace Go.Proofs.Qxb6613752aDoor.W
open Go.RowKit

/-- A name that waits in the batch. -/
structure Ent where
  a : Option Addr
  n : Nat
  c : Nat
  l : List UInt8
  o : Nat
  mark : Bool
  h : Nat

/-- What placing one name makes of the table and of the marks. -/
def step (N : Nat) (nm : Nat → List UInt8) (s : (Nat → Nat × Nat) × Option (Nat → Int)) (e : Ent) : (Nat → Nat × Nat) × Option (Nat → Int) :=
  let r := Tb.look N nm s.1 (e.h / 72057594037927936) e.l N (homeOf N e.h)
  (if r.2 then Tb.put s.1 r.1 (e.h / 72057594037927936, e.o + 1) else s.1, if r.2 then s.2 else if e.mark then some (addD s.2 e.o) else s.2)

/-- The table and the marks behind the first k names. -/
def run (N : Nat) (nm : Nat → List UInt8) (s : (Nat → Nat × Nat) × Option (Nat → Int)) (E : Nat → Ent) : Nat → (Nat → Nat × Nat) × Option (Nat → Int)
  | 0 => s
  | k + 1 => step N nm (run N nm s E k) (E k)

/-- A slice of bytes in memory below block B. -/
def SlB (B : Nat) (w : World) (v : Value) (l : List UInt8) : Prop :=
  ∃ a c, v = .slice a l.length c ∧ (l = [] ∨ ∃ b o, a = some ⟨b, o, none⟩ ∧ b < B ∧ ∀ j (hj : j < l.length), w.cell? ⟨b, o + j, none⟩ = some (.int .u8 (l[j].toNat : Int)))

theorem SlB.sl {B : Nat} {w : World} {v : Value} {l : List UInt8} (h : SlB B w v l) : Sl w v l := by
  obtain ⟨a, c, rfl, h⟩ := h
  refine ⟨a, c, rfl, ?_⟩
  rcases h with rfl | ⟨b, o, rfl, _, h⟩
  · exact .inl rfl
  · exact .inr ⟨b, o, rfl, h⟩

theorem SlB.below {B : Nat} {w w' : World} {v : Value} {l : List UInt8} (h : SlB B w v l) (k : Below B w w') : SlB B w' v l := by
  obtain ⟨a, c, rfl, h⟩ := h
  refine ⟨a, c, rfl, ?_⟩
  rcases h with rfl | ⟨b, o, rfl, hb, h⟩
  · exact .inl rfl
  · exact .inr ⟨b, o, rfl, hb, fun j hj => (k.cell (p := ⟨b, o + j, none⟩) hb).trans (h j hj)⟩

/-- What each name of the batch must be, and what the batch's cells hold. -/
structure Waits (B : Nat) (w : World) (L : Nat) (bf : Nat → Value) (m : Nat) (E : Nat → Ent) : Prop where
  sl : ∀ i, i < m → SlB B w (.slice (E i).a (E i).n (E i).c) (E i).l
  o : ∀ i, i < m → (E i).o < L
  h : ∀ i, i < m → (E i).h < 18446744073709551616
  f0 : ∀ i, i < m → bf (i * 4) = .slice (E i).a (E i).n (E i).c
  f1 : ∀ i, i < m → bf (i * 4 + 1) = .int .i32 (E i).o
  f2 : ∀ i, i < m → bf (i * 4 + 2) = .bool (E i).mark
  f3 : ∀ i, i < m → bf (i * 4 + 3) = .int .u64 (E i).h

/-- The table is one over which the next name can be placed. -/
structure Fit (N L : Nat) (z : Nat → Nat) (nm : Nat → List UInt8) (T : Nat → Nat × Nat) (h : Nat) : Prop where
  good : ∀ i, i < N → (T i).2 ≠ 0 → Closes z L ((T i).2 - 1) (nm ((T i).2 - 1))
  val : ∀ i, i < N → (T i).1 < 256 ∧ (T i).2 ≤ 1048576
  free : Tb.Free N T N (homeOf N h)

theorem setf_held (sv : Value) (tb N db : Nat) (bf : Nat → Value) (held touched k : Int) (j : Nat) : (if j = 68 then Value.int .i64 k else setf sv tb N db bf held touched j) = setf sv tb N db bf k touched j := by
  unfold setf
  by_cases h : j = 68
  · subst h; simp
  · rw [if_neg h, if_neg h, if_neg h]

theorem setf_touched (sv : Value) (tb N db : Nat) (bf : Nat → Value) (held touched k : Int) (j : Nat) (hj : j < 70) : (if j = 69 then Value.int .u8 k else setf sv tb N db bf held touched j) = setf sv tb N db bf held k j := by
  unfold setf
  by_cases h : j = 69
  · subst h; simp
  · rw [if_neg h]
    have h' : j < 69 := by omega
    by_cases h2 : j < 68
    · simp [h2]
    · obtain rfl : j = 68 := by omega
      simp

theorem NS.nbOnly {w w' : World} {B nb tb db N M : Nat} {sv : Value} {bf bf' : Nat → Value} {held touched held' touched' : Int} {T : Nat → Nat × Nat} {D : Option (Nat → Int)}
    (h : NS w B nb tb db N M sv bf held touched T D) (k : Only nb w w') (hs : w'.rowIs nb 64 70 (setf sv tb N db bf' held' touched')) : NS w' B nb tb db N M sv bf' held' touched' T D :=
  ⟨h.bn, h.bt, h.bd, hs, rowIs_only h.tab k (rowIs_ne h.tab h.set (by decide)),
    h.dup.only k (by
      have h3 := h.dup
      have h4 := h.set
      cases D with
      | none => exact rowIs_ne h3 h4 (by decide)
      | some d => obtain ⟨xb, _, r1, _⟩ := h3; exact rowIs_ne r1 h4 (by decide)) (fun x d hd => rowIs_ne hd h.set (by decide))⟩

theorem NS.setHeld {w : World} {B nb tb db N M : Nat} {sv : Value} {bf : Nat → Value} {held touched : Int} {T : Nat → Nat × Nat} {D : Option (Nat → Int)}
    (h : NS w B nb tb db N M sv bf held touched T D) (k : Int) : NS (w.setCell ⟨nb, 68, none⟩ (.int .i64 k)) B nb tb db N M sv bf k touched T D :=
  h.nbOnly ((Only.refl _ _).setCell _ _) ((h.set.set 68 _).congr fun j _ => setf_held sv tb N db bf held touched k j)

theorem NS.setTouched {w : World} {B nb tb db N M : Nat} {sv : Value} {bf : Nat → Value} {held touched : Int} {T : Nat → Nat × Nat} {D : Option (Nat → Int)}
    (h : NS w B nb tb db N M sv bf held touched T D) (k : Int) : NS (w.setCell ⟨nb, 69, none⟩ (.int .u8 k)) B nb tb db N M sv bf held k T D :=
  h.nbOnly ((Only.refl _ _).setCell _ _) ((h.set.set 69 _).congr fun j hj => setf_touched sv tb N db bf held touched k j hj)

theorem setf_batch (sv : Value) (tb N db : Nat) (bf : Nat → Value) (held touched : Int) (j : Nat) (hj : j < 64) : setf sv tb N db bf held touched (4 + j) = bf j := by
  unfold setf
  rw [if_neg (by omega), if_neg (by omega), if_neg (by omega), if_neg (by omega), if_pos (by omega), show 4 + j - 4 = j by omega]

set_option maxHeartbeats 2000000 in
set_option maxRecDepth 100000 in
theorem flush_calls (B nb tb db N M g L m : Nat) (z : Nat → Nat) (bf : Nat → Value) (touched : Int) (T : Nat → Nat × Nat) (D : Option (Nat → Int)) (nm : Nat → List UInt8) (E : Nat → Ent) (sv : Value) (w : World)
    (hN0 : 0 < N) (hN : N ≤ 65536) (hL : L ≤ 1048576) (hm : m ≤ 16) (hM : M = (L + 63) / 64) (hT : Tab w) (hB : 1 < B)
    (hns : NS w B nb tb db N M sv bf m touched T D)
    (hsv : 0 < m → sv = .slice (some ⟨g, 0, none⟩) L L ∧ Bytes w g 0 L z ∧ g < B)
    (hw : Waits B w L bf m E) (hfit : ∀ k, k < m → Fit N L z nm (run N nm (T, D) E k).1 (E k).h) :
    Calls Tryd.prog 28 #[.pointer (some ⟨nb, 0, none⟩)] w fun e w' => e = .returned (.tuple #[]) ∧ Below B w w' ∧ ∃ touched', NS w' B nb tb db N M sv bf 0 touched' (run N nm (T, D) E m).1 (run N nm (T, D) E m).2 := by
  have c68 : w.cell? ⟨nb, 68, none⟩ = some (.int .i64 m) := hns.set.cell (i := 68) (by decide)
  have f68 : w.frozen? ⟨nb, 68, none⟩ = false := hns.set.frozen 68
  have HNS : Hid (NS w B nb tb db N M sv bf m touched T D) := hns
  have HW : Hid (Waits B w L bf m E) := hw
  have HF : Hid (∀ k, k < m → Fit N L z nm (run N nm (T, D) E k).1 (E k).h) := hfit
  have HS : Hid (0 < m → sv = .slice (some ⟨g, 0, none⟩) L L ∧ Bytes w g 0 L z ∧ g < B) := hsv
  have HT : Hid (Tab w) := hT
  have HM : Hid (M = (L + 63) / 64) := hM
  have mm : (m : Int) ≤ 16 := by omega
  clear hns hw hfit hsv hT hM
  go_enter Tryd.func28, Tryd.ntmps28
  go_wp2_with fail
  go_quiet (fail)
  go_wp2_with fail
  have NA : Hid (NS ((w.drewN nq).setCell ⟨nb, 68, none⟩ (.int .i64 0)) B nb tb db N M sv bf 0 touched T D) := (HNS.out.below (below_drewN w nq)).setHeld 0
  have BA : Hid (Below B w ((w.drewN nq).setCell ⟨nb, 68, none⟩ (.int .i64 0))) := (below_drewN w nq).setCell (p := ⟨nb, 68, none⟩) HNS.out.bn _
  generalize (w.drewN nq).setCell ⟨nb, 68, none⟩ (.int .i64 0) = wA at *
  go_loopg [3, 21] m (fun gk t i wr => ∃ (k : Nat) (x : Int), k ≤ m ∧ i = .int .i64 k ∧ t = .int .u8 x ∧ k + gk = m ∧ Hid (Below wA.heap.size wA wr))
  case atStart => exact ⟨0, 0, Nat.zero_le _, rfl, rfl, by omega, Below.refl _ _⟩
  case round =>
    obtain ⟨k, x, hk, rfl, rfl, hg, hb⟩ := hrel
    have HG : Hid (k + gk = m) := hg
    clear hg
    by_cases hkm : k < m
    · have NR := NA.out.below hb.out
      have WA := HW.out
      have hh := WA.h k hkm
      have hhome := homeOf_lt N (E k).h hN0
      have c0 : wr.cell? ⟨nb, 4 + k * 4, none⟩ = some (.slice (E k).a (E k).n (E k).c) := by rw [NR.set.cell (i := 4 + k * 4) (by omega), setf_batch _ _ _ _ _ _ _ _ (by omega), WA.f0 k hkm]
      have c1 : wr.cell? ⟨nb, 4 + k * 4 + 1, none⟩ = some (.int .i32 (E k).o) := by rw [NR.set.cell (i := 4 + k * 4 + 1) (by omega), Nat.add_assoc, setf_batch _ _ _ _ _ _ _ _ (by omega), WA.f1 k hkm]
      have c2 : wr.cell? ⟨nb, 4 + k * 4 + 2, none⟩ = some (.bool (E k).mark) := by rw [NR.set.cell (i := 4 + k * 4 + 2) (by omega), Nat.add_assoc, setf_batch _ _ _ _ _ _ _ _ (by omega), WA.f2 k hkm]
      have c3 : wr.cell? ⟨nb, 4 + k * 4 + 3, none⟩ = some (.int .u64 (E k).h) := by rw [NR.set.cell (i := 4 + k * 4 + 3) (by omega), Nat.add_assoc, setf_batch _ _ _ _ _ _ _ _ (by omega), WA.f3 k hkm]
      have d2 : ∀ o, (wr.alloc o).cell? ⟨nb, 2, none⟩ = some (.slice (some ⟨tb, 0, none⟩) N N) := fun o => (NR.set.alloc o).cell (i := 2) (by decide)
      have dt : ∀ o, (wr.alloc o).cell? ⟨tb, homeOf N (E k).h * 5, none⟩ = some (.int .u8 ((T (homeOf N (E k).h)).1 : Nat)) := fun o => by rw [(NR.tab.alloc o).cell (i := homeOf N (E k).h * 5) (by omega), tabf_tag]
      have Hhome : Hid (∀ w, w.cell? ⟨nb, 2, none⟩ = some (.slice (some ⟨tb, 0, none⟩) N N) → Calls Tryd.prog 34 #[.pointer (some ⟨nb, 0, none⟩), .int .u64 (E k).h] w fun e w' => e = .returned (.int .i64 (homeOf N (E k).h : Nat)) ∧ w' = w) := fun w hc => home_calls nb tb N (E k).h w hN hh hc
      clear NR WA
      generalize homeOf N (E k).h = hmk at *
      generalize (T hmk).1 = tg at *
      generalize (E k).h = hk0 at *
      generalize (E k).o = ok at *
      generalize (E k).mark = mk0 at *
      generalize (E k).a = ak at *
      generalize (E k).n = nk at *
      generalize (E k).c = ck at *
      go_wp2_with fail
      go_quiet ((go_at_call 34; exact Calls.quiet_of_same (Hhome.out _ (d2 _))))
      go_wp2_with fail
      go_roundg (gk - 1)
      case measure => have := HG.out; omega
      case rel => exact ⟨k + 1, _, by omega, by go_num, rfl, by have := HG.out; omega, (hb.out.trans (((below_alloc wr _).trans (below_drewN _ _)).mono hb.out.size))⟩
    · have NR := NA.out.below hb.out
      have c69 : wr.cell? ⟨nb, 69, none⟩ = some (.int .u8 touched) := NR.set.cell (i := 69) (by decide)
      have f69 : wr.frozen? ⟨nb, 69, none⟩ = false := NR.set.frozen 69
      have N1 : Hid (NS (wr.setCell ⟨nb, 69, none⟩ (.int .u8 x)) B nb tb db N M sv bf 0 x T D) := NR.setTouched x
      have B1 : Hid (Below B w (wr.setCell ⟨nb, 69, none⟩ (.int .u8 x))) := (BA.out.trans (hb.out.mono (by have := NA.out.bn; have := NA.out.set.lt; omega))).setCell (p := ⟨nb, 69, none⟩) HNS.out.bn _
      clear NR
      go_wp2_with fail
      generalize wr.setCell ⟨nb, 69, none⟩ (.int .u8 x) = wB at *
      clear c69 f69 hb
      go_loopg [45] m (fun gk i wx => ∃ (k : Nat), k ≤ m ∧ i = .int .i64 k ∧ k + gk = m ∧ Hid (Below B w wx) ∧ Hid (NS wx B nb tb db N M sv bf 0 x (run N nm (T, D) E k).1 (run N nm (T, D) E k).2))
      case atStart => exact ⟨0, Nat.zero_le _, rfl, by omega, B1, N1⟩
      case round =>
        obtain ⟨k, hk, rfl, hg, hbx, NX⟩ := hrel
        have HG2 : Hid (k + gk = m) := hg
        clear hg
        by_cases hkm : k < m
        · obtain ⟨hsv, hz, hgB⟩ := HS.out (by omega)
          subst hsv
          have WA := HW.out
          have FK := HF.out k hkm
          have hh := WA.h k hkm
          have hoL := WA.o k hkm
          have c0 : wr.cell? ⟨nb, 4 + k * 4, none⟩ = some (.slice (E k).a (E k).n (E k).c) := by rw [NX.out.set.cell (i := 4 + k * 4) (by omega), setf_batch _ _ _ _ _ _ _ _ (by omega), WA.f0 k hkm]
          have c1 : wr.cell? ⟨nb, 4 + k * 4 + 1, none⟩ = some (.int .i32 (E k).o) := by rw [NX.out.set.cell (i := 4 + k * 4 + 1) (by omega), Nat.add_assoc, setf_batch _ _ _ _ _ _ _ _ (by omega), WA.f1 k hkm]
          have c2 : wr.cell? ⟨nb, 4 + k * 4 + 2, none⟩ = some (.bool (E k).mark) := by rw [NX.out.set.cell (i := 4 + k * 4 + 2) (by omega), Nat.add_assoc, setf_batch _ _ _ _ _ _ _ _ (by omega), WA.f2 k hkm]
          have c3 : wr.cell? ⟨nb, 4 + k * 4 + 3, none⟩ = some (.int .u64 (E k).h) := by rw [NX.out.set.cell (i := 4 + k * 4 + 3) (by omega), Nat.add_assoc, setf_batch _ _ _ _ _ _ _ _ (by omega), WA.f3 k hkm]
          have htb : tb < wr.heap.size := NX.out.tab.lt
          have hBx : B ≤ wr.heap.size := by have := NX.out.bt; omega
          have ba := below_alloc wr (.cells #[.slice (E k).a (E k).n (E k).c, .int .i32 (E k).o, .bool (E k).mark, .int .u64 (E k).h] 61)
          have bw : Below B w (wr.alloc (.cells #[.slice (E k).a (E k).n (E k).c, .int .i32 (E k).o, .bool (E k).mark, .int .u64 (E k).h] 61)) := hbx.out.trans (ba.mono hBx)
          have INS := insert_calls B nb tb db N M g L z bf 0 x (run N nm (T, D) E k).1 (run N nm (T, D) E k).2 nm (E k).a (E k).n (E k).c (E k).l (E k).o (E k).mark (E k).h _ hN0 hN hL (by omega) hh
            (HT.out.below bw hB) (hz.below bw hgB) (by simp; omega) (NX.out.below ba) ((WA.sl k hkm).below bw).sl FK.good FK.val FK.free
          have RS : Hid (run N nm (T, D) E (k + 1) = step N nm (run N nm (T, D) E k) (E k)) := rfl
          have BW : Hid (Below B w (wr.alloc (.cells #[.slice (E k).a (E k).n (E k).c, .int .i32 (E k).o, .bool (E k).mark, .int .u64 (E k).h] 61))) := bw
          clear ba bw FK hz
          unfold step at RS
          generalize run N nm (T, D) E k = S0 at *
          generalize Tb.look N nm S0.1 ((E k).h / 72057594037927936) (E k).l N (homeOf N (E k).h) = R at *
          obtain ⟨ri, rb⟩ := R
          generalize (E k).h = hk0 at *
          generalize (E k).o = ok at *
          generalize (E k).a = ak at *
          generalize (E k).n = nk at *
          generalize (E k).c = ck at *
          cases rb with
          | true =>
            have I1 : Hid (Calls Tryd.prog 35 #[.pointer (some ⟨nb, 0, none⟩), .agg #[.slice ak nk ck, .int .i32 ok, .bool (E k).mark, .int .u64 hk0]] (wr.alloc (.cells #[.slice ak nk ck, .int .i32 ok, .bool (E k).mark, .int .u64 hk0] 61)) fun e w' => e = .returned (.bool true) ∧ Below B (wr.alloc (.cells #[.slice ak nk ck, .int .i32 ok, .bool (E k).mark, .int .u64 hk0] 61)) w' ∧ Only tb (wr.alloc (.cells #[.slice ak nk ck, .int .i32 ok, .bool (E k).mark, .int .u64 hk0] 61)) w' ∧ NS w' B nb tb db N M (.slice (some ⟨g, 0, none⟩) L L) bf 0 x (Tb.put S0.1 ri (hk0 / 72057594037927936, ok + 1)) S0.2) := INS
            have R1 : Hid (run N nm (T, D) E (k + 1) = ((Tb.put S0.1 ri (hk0 / 72057594037927936, ok + 1)), S0.2)) := by
                have h1 := RS.out
                have h2 : run N nm (T, D) E (k + 1) = ((Tb.put S0.1 ri (hk0 / 72057594037927936, ok + 1)), S0.2) := by simpa using h1
                exact h2
            clear INS RS
            generalize (E k).mark = mk0 at *
            go_wp2_with fail
            refine I1.out.mono ?_
            rintro e w2 ⟨rfl, hb2, ho2, hn2⟩
            have HB2 : Hid (Below B w w2) := BW.out.trans hb2
            have HN2 : NS w2 B nb tb db N M (.slice (some ⟨g, 0, none⟩) L L) bf 0 x (run N nm (T, D) E (k + 1)).1 (run N nm (T, D) E (k + 1)).2 := by rw [R1.out]; exact hn2
            have HN3 : Hid (NS w2 B nb tb db N M (.slice (some ⟨g, 0, none⟩) L L) bf 0 x (run N nm (T, D) E (k + 1)).1 (run N nm (T, D) E (k + 1)).2) := HN2
            clear hb2 hn2 ho2 HN2
            go_wp2_with fail
            go_roundg (gk - 1)
            case measure => have := HG2.out; omega
            case rel => exact ⟨k + 1, by omega, by go_num, by have := HG2.out; omega, HB2, HN3⟩
          | false =>
            cases hmk : (E k).mark with
            | false =>
              rw [hmk] at INS c2
              have BW2 := BW.out
              rw [hmk] at BW2
              have BW3 : Hid (Below B w (wr.alloc (.cells #[.slice ak nk ck, .int .i32 ok, .bool false, .int .u64 hk0] 61))) := BW2
              have I1 : Hid (Calls Tryd.prog 35 #[.pointer (some ⟨nb, 0, none⟩), .agg #[.slice ak nk ck, .int .i32 ok, .bool false, .int .u64 hk0]] (wr.alloc (.cells #[.slice ak nk ck, .int .i32 ok, .bool false, .int .u64 hk0] 61)) fun e w' => e = .returned (.bool false) ∧ Below B (wr.alloc (.cells #[.slice ak nk ck, .int .i32 ok, .bool false, .int .u64 hk0] 61)) w' ∧ Only tb (wr.alloc (.cells #[.slice ak nk ck, .int .i32 ok, .bool false, .int .u64 hk0] 61)) w' ∧ NS w' B nb tb db N M (.slice (some ⟨g, 0, none⟩) L L) bf 0 x S0.1 S0.2) := INS
              have R1 : Hid (run N nm (T, D) E (k + 1) = (S0.1, S0.2)) := by
                have h1 := RS.out
                have h2 : run N nm (T, D) E (k + 1) = (S0.1, S0.2) := by simpa [hmk] using h1
                exact h2
              clear INS RS BW BW2 hmk
              go_wp2_with fail
              refine I1.out.mono ?_
              rintro e w2 ⟨rfl, hb2, ho2, hn2⟩
              have HB2 : Hid (Below B w w2) := BW3.out.trans hb2
              have HN2 : NS w2 B nb tb db N M (.slice (some ⟨g, 0, none⟩) L L) bf 0 x (run N nm (T, D) E (k + 1)).1 (run N nm (T, D) E (k + 1)).2 := by rw [R1.out]; exact hn2
              have HN3 : Hid (NS w2 B nb tb db N M (.slice (some ⟨g, 0, none⟩) L L) bf 0 x (run N nm (T, D) E (k + 1)).1 (run N nm (T, D) E (k + 1)).2) := HN2
              have p2 : w2.cell? ⟨wr.heap.size, 2, none⟩ = some (.bool false) := ho2.cell (p := ⟨wr.heap.size, 2, none⟩) (by simp) (by show wr.heap.size ≠ tb; omega)
              clear hb2 hn2 ho2 HN2
              go_wp2_with fail
              go_roundg (gk - 1)
              case measure => have := HG2.out; omega
              case rel => exact ⟨k + 1, by omega, by go_num, by have := HG2.out; omega, HB2, HN3⟩
            | true =>
              rw [hmk] at INS c2
              have BW2 := BW.out
              rw [hmk] at BW2
              have BW3 : Hid (Below B w (wr.alloc (.cells #[.slice ak nk ck, .int .i32 ok, .bool true, .int .u64 hk0] 61))) := BW2
              have I1 : Hid (Calls Tryd.prog 35 #[.pointer (some ⟨nb, 0, none⟩), .agg #[.slice ak nk ck, .int .i32 ok, .bool true, .int .u64 hk0]] (wr.alloc (.cells #[.slice ak nk ck, .int .i32 ok, .bool true, .int .u64 hk0] 61)) fun e w' => e = .returned (.bool false) ∧ Below B (wr.alloc (.cells #[.slice ak nk ck, .int .i32 ok, .bool true, .int .u64 hk0] 61)) w' ∧ Only tb (wr.alloc (.cells #[.slice ak nk ck, .int .i32 ok, .bool true, .int .u64 hk0] 61)) w' ∧ NS w' B nb tb db N M (.slice (some ⟨g, 0, none⟩) L L) bf 0 x S0.1 S0.2) := INS
              have R1 : Hid (run N nm (T, D) E (k + 1) = (S0.1, some (addD S0.2 ok))) := by
                have h1 := RS.out
                have h2 : run N nm (T, D) E (k + 1) = (S0.1, some (addD S0.2 ok)) := by simpa [hmk] using h1
                exact h2
              clear INS RS BW BW2 hmk
              go_wp2_with fail
              refine I1.out.mono ?_
              rintro e w2 ⟨rfl, hb2, ho2, hn2⟩
              have HB2 : Hid (Below B w w2) := BW3.out.trans hb2
              have HN2 : Hid (NS w2 B nb tb db N M (.slice (some ⟨g, 0, none⟩) L L) bf 0 x S0.1 S0.2) := hn2
              have p2 : w2.cell? ⟨wr.heap.size, 2, none⟩ = some (.bool true) := ho2.cell (p := ⟨wr.heap.size, 2, none⟩) (by simp) (by show wr.heap.size ≠ tb; omega)
              have p1 : w2.cell? ⟨wr.heap.size, 1, none⟩ = some (.int .i32 ok) := ho2.cell (p := ⟨wr.heap.size, 1, none⟩) (by simp) (by show wr.heap.size ≠ tb; omega)
              have d3 : w2.cell? ⟨nb, 3, none⟩ = some (.pointer (some ⟨db, 0, none⟩)) := hn2.set.cell (i := 3) (by decide)
              have d0 : w2.cell? ⟨nb, 0, none⟩ = some (.slice (some ⟨g, 0, none⟩) L L) := hn2.set.cell (i := 0) (by decide)
              have AD : Hid (∀ W, Below w2.heap.size w2 W → Calls Tryd.prog 36 #[.pointer (some ⟨db, 0, none⟩), .int .i64 L, .int .i64 (IntKind.i64.wrap ok)] W fun e w' => e = .returned (.tuple #[]) ∧ Below B W w' ∧ NS w' B nb tb db N M (.slice (some ⟨g, 0, none⟩) L L) bf 0 x S0.1 (some (addD S0.2 ok))) :=
                fun W hW => by
                  rw [show IntKind.i64.wrap (ok : Int) = ok by rw [IntKind.wrap_i64]; omega]
                  exact add_calls B nb tb db N M _ bf 0 x S0.1 S0.2 L ok W hL hoL HM.out (HN2.out.below hW)
              have hB2 : B ≤ w2.heap.size := by have := hn2.bt; have := hn2.tab.lt; omega
              clear hb2 hn2 ho2
              go_wp2_with fail
              go_region_with (go_at_call 36; refine (AD.out _ ((Below.refl _ _).drew)).mono ?_; rintro e w3 ⟨rfl, hb3, hn3⟩)
              all_goals
                have HB3 : Hid (Below B w w3) := HB2.out.trans (((Below.refl B w2).drew).trans hb3)
                have HN4 : NS w3 B nb tb db N M (.slice (some ⟨g, 0, none⟩) L L) bf 0 x (run N nm (T, D) E (k + 1)).1 (run N nm (T, D) E (k + 1)).2 := by rw [R1.out]; exact hn3
                have HN3 : Hid (NS w3 B nb tb db N M (.slice (some ⟨g, 0, none⟩) L L) bf 0 x (run N nm (T, D) E (k + 1)).1 (run N nm (T, D) E (k + 1)).2) := HN4
                clear hb3 hn3 HN4
                go_wp2_with fail
                go_roundg (gk - 1)
                case measure => have := HG2.out; omega
                case rel => exact ⟨k + 1, by omega, by go_num, by have := HG2.out; omega, HB3, HN3⟩
        · obtain rfl : k = m := by omega
          go_wp2_with fail
          go_end0
          exact ⟨rfl, hbx.out, x, NX.out⟩

set_option maxHeartbeats 1000000 in
theorem zzflush_calls (nb : Nat) (w : World) (Q : Ending → World → Prop) (h : Calls Tryd.prog 28 #[.pointer (some ⟨nb, 0, none⟩)] w fun e w' => e = .returned (.tuple #[]) ∧ Q e w') :
    Calls Tryd.prog 17 #[.pointer (some ⟨nb, 0, none⟩)] w fun e w' => e = .returned (.tuple #[]) ∧ Q e w' := by
  have H : Hid (Calls Tryd.prog 28 #[.pointer (some ⟨nb, 0, none⟩)] w fun e w' => e = .returned (.tuple #[]) ∧ Q e w') := h
  clear h
  go_enter Tryd.func17, Tryd.ntmps17
  go_wp2_with fail
  refine H.out.mono ?_
  rintro e w' ⟨rfl, hq⟩
  go_wp2_with fail
  go_end0
  exact ⟨rfl, hq⟩

end Go.Proofs.Qxb6613752aDoor.W
