import Derived.Test.Qxb6613752aDoorFits
namespace Go.Proofs.Qxb6613752aDoor.W

/-- The name that stands at offset o of the text: up to the next quote. -/
def nmAt (z : Nat → Nat) (L o : Nat) : List UInt8 := ((List.range (L - (o + 1))).map fun j => UInt8.ofNat (z (o + 1 + j))).takeWhile fun b => b != 34

theorem nmAt_eq {z : Nat → Nat} {L o : Nat} {l : List UInt8} (h : Closes z L o l) : nmAt z L o = l := by
  obtain ⟨h1, h2, h3⟩ := h
  obtain ⟨R, hR⟩ : ∃ R, L - (o + 1) = l.length + (1 + R) := ⟨L - (o + 1) - (l.length + 1), by omega⟩
  have e : (List.range (L - (o + 1))).map (fun j => UInt8.ofNat (z (o + 1 + j))) = l ++ 34 :: (List.range R).map (fun j => UInt8.ofNat (z (o + 1 + (l.length + (1 + j))))) := by
    rw [hR, List.range_add, List.map_append, List.range_add]
    congr 1
    · apply List.ext_getElem
      · simp
      · intro i h4 h5
        have := (h2 i h5).1
        simp only [List.getElem_map, List.getElem_range]
        rw [this]
        exact UInt8.ofNat_toNat
    · simp only [List.map_map, Function.comp_def, List.range_one, List.map_cons, Nat.add_zero, h3, List.cons_append, List.nil_append]
      rfl
  unfold nmAt
  rw [e, List.takeWhile_append_of_pos]
  · simp
  · intro b hb
    obtain ⟨i, hi, rfl⟩ := List.getElem_of_mem hb
    have := (h2 i hi).2.1
    rw [bne_iff_ne]
    intro e2
    rw [e2] at this
    exact this rfl

theorem free_le (N : Nat) (T : Nat → Nat × Nat) (p : Nat) (hp : (T p).2 = 0) (hpN : p < N) : ∀ f i, i ≤ p → p - i < f → Tb.Free N T f i
  | 0, _, _, h => absurd h (Nat.not_lt_zero _)
  | f + 1, i, hi, h => by
    by_cases e : i = p
    · exact .inl (e ▸ hp)
    · refine .inr ?_
      rw [if_neg (by omega)]
      exact free_le N T p hp hpN f (i + 1) (by omega) (by omega)

theorem free_gt (N : Nat) (T : Nat → Nat × Nat) (p : Nat) (hp : (T p).2 = 0) (hpN : p < N) : ∀ f i, p < i → i < N → N - i + p < f → Tb.Free N T f i
  | 0, _, _, _, h => absurd h (Nat.not_lt_zero _)
  | f + 1, i, hi, hiN, h => by
    refine .inr ?_
    by_cases e : i + 1 = N
    · rw [if_pos e]
      exact free_le N T p hp hpN f 0 (Nat.zero_le _) (by omega)
    · rw [if_neg e]
      exact free_gt N T p hp hpN f (i + 1) (by omega) (by omega) (by omega)

theorem free_of (N : Nat) (T : Nat → Nat × Nat) (p i : Nat) (hp : (T p).2 = 0) (hpN : p < N) (hi : i < N) : Tb.Free N T N i := by
  by_cases h : i ≤ p
  · exact free_le N T p hp hpN N i h (by omega)
  · exact free_gt N T p hp hpN N i (by omega) hi (by omega)

theorem occ_free (T : Nat → Nat × Nat) : ∀ n, occ T n < n → ∃ p, p < n ∧ (T p).2 = 0
  | 0, h => absurd h (Nat.not_lt_zero _)
  | n + 1, h => by
    by_cases e : (T n).2 = 0
    · exact ⟨n, Nat.lt_succ_self _, e⟩
    · unfold occ at h
      rw [if_neg e] at h
      obtain ⟨p, hp, h0⟩ := occ_free T n (by omega)
      exact ⟨p, by omega, h0⟩

theorem occ_put (T : Nat → Nat × Nat) (p t v : Nat) (hp : (T p).2 = 0) (hv : v ≠ 0) : ∀ n, occ (Tb.put T p (t, v)) n = occ T n + if p < n then 1 else 0
  | 0 => by simp [occ]
  | n + 1 => by
    have ih := occ_put T p t v hp hv n
    unfold occ
    rw [ih]
    by_cases e : n = p
    · subst e
      simp [Tb.put, hp, hv]
    · have e2 : Tb.put T p (t, v) n = T n := by simp [Tb.put, e]
      rw [e2]
      have e3 : (if p < n then 1 else 0) = (if p < n + 1 then 1 else 0) := by
        by_cases h : p < n
        · rw [if_pos h, if_pos (by omega)]
        · rw [if_neg h, if_neg (by omega)]
      rw [e3]
      generalize (if (T n).2 = 0 then 0 else 1) = q
      omega

/-- What the table is behind the first k names. -/
structure Inv (N L : Nat) (z : Nat → Nat) (E : Nat → Ent) (k : Nat) (T : Nat → Nat × Nat) : Prop where
  src : ∀ i, i < N → (T i).2 ≠ 0 → ∃ j, j < k ∧ (T i).2 = (E j).o + 1
  tag : ∀ i, i < N → (T i).1 < 256
  cnt : occ T N = firsts (fun i => (E i).l) k
  fnd : ∀ j, j < k → (Tb.look N (nmAt z L) T ((E j).h / 72057594037927936) (E j).l N (homeOf N (E j).h)).2 = false

/-- What is asked of the names. -/
structure Plain (N L n : Nat) (z : Nat → Nat) (E : Nat → Ent) : Prop where
  n16 : n < N
  L20 : L ≤ 1048576
  cl : ∀ k, k < n → Closes z L (E k).o (E k).l
  h : ∀ k, k < n → (E k).h < 18446744073709551616
  hash : ∀ k, k < n → ∀ j, j < k → (E j).l = (E k).l → (E j).h = (E k).h

theorem Inv.fit {N L n k : Nat} {z : Nat → Nat} {E : Nat → Ent} {T : Nat → Nat × Nat} (hp : Plain N L n z E) (hk : k ≤ n) (h : Inv N L z E k T) : ∀ hsh, Fit N L z (nmAt z L) T hsh := by
  intro hsh
  refine ⟨fun i hi h0 => ?_, fun i hi => ⟨h.tag i hi, ?_⟩, ?_⟩
  · obtain ⟨j, hj, e⟩ := h.src i hi h0
    rw [e, Nat.add_sub_cancel]
    have hc := hp.cl j (by omega)
    rw [nmAt_eq hc]
    exact hc
  · by_cases h0 : (T i).2 = 0
    · omega
    · obtain ⟨j, hj, e⟩ := h.src i hi h0
      have hc := (hp.cl j (by omega)).1
      have := hp.L20
      omega
  · have h1 := firsts_le (fun i => (E i).l) k
    have h2 := hp.n16
    obtain ⟨p, hpN, h0⟩ := occ_free T N (by rw [h.cnt]; omega)
    exact free_of N T p _ h0 hpN (homeOf_lt N hsh (by omega))

theorem isFirst_iff {l : Nat → List UInt8} {k : Nat} : isFirst l k = false ↔ ∃ j, j < k ∧ l j = l k := by
  unfold isFirst
  rw [List.all_eq_false]
  constructor
  · rintro ⟨j, hj, h⟩
    exact ⟨j, List.mem_range.1 hj, by simpa using h⟩
  · rintro ⟨j, hj, h⟩
    exact ⟨j, List.mem_range.2 hj, by simp [h]⟩

theorem Inv.step {N L n k : Nat} {z : Nat → Nat} {E : Nat → Ent} {s : (Nat → Nat × Nat) × Option (Nat → Int)} (hp : Plain N L n z E) (hk : k < n) (h : Inv N L z E k s.1) : Inv N L z E (k + 1) (step N (nmAt z L) s (E k)).1 := by
  have hfit := h.fit hp (by omega)
  have hN : 0 < N := by have := hp.n16; omega
  have hhome := homeOf_lt N (E k).h hN
  have hfree := (hfit (E k).h).free
  have hrlt := Tb.look_lt N (nmAt z L) s.1 ((E k).h / 72057594037927936) (E k).l N (homeOf N (E k).h) hhome
  have hck := hp.cl k hk
  have htag : (E k).h / 72057594037927936 < 256 := by have := hp.h k hk; omega
  have hf : firsts (fun i => (E i).l) (k + 1) = firsts (fun i => (E i).l) k + if isFirst (fun i => (E i).l) k then 1 else 0 := rfl
  unfold W.step
  simp only
  cases hr : (Tb.look N (nmAt z L) s.1 ((E k).h / 72057594037927936) (E k).l N (homeOf N (E k).h)).2 with
  | true =>
    have hz0 := Tb.look_free N (nmAt z L) s.1 _ _ N _ hr
    have hfirst : isFirst (fun i => (E i).l) k = true := by
      cases hc : isFirst (fun i => (E i).l) k with
      | true => rfl
      | false =>
        obtain ⟨j, hj, e⟩ := isFirst_iff.1 hc
        have hh := hp.hash k hk j hj e
        have := h.fnd j hj
        rw [hh, e, hr] at this
        exact absurd this (by decide)
    have hself := Tb.look_put_self N (nmAt z L) s.1 ((E k).h / 72057594037927936) (E k).l ((E k).o + 1) (by omega) (by rw [Nat.add_sub_cancel]; exact nmAt_eq hck) N _ hr
    generalize hR : Tb.look N (nmAt z L) s.1 ((E k).h / 72057594037927936) (E k).l N (homeOf N (E k).h) = R at *
    simp only [if_true]
    refine ⟨fun i hi h0 => ?_, fun i hi => ?_, ?_, fun j hj => ?_⟩
    · by_cases e : i = R.1
      · exact ⟨k, by omega, by simp [Tb.put, e]⟩
      · have e2 : Tb.put s.1 R.1 ((E k).h / 72057594037927936, (E k).o + 1) i = s.1 i := by simp [Tb.put, e]
        rw [e2] at h0 ⊢
        obtain ⟨j, hj, e3⟩ := h.src i hi h0
        exact ⟨j, by omega, e3⟩
    · by_cases e : i = R.1
      · simp [Tb.put, e, htag]
      · have e2 : Tb.put s.1 R.1 ((E k).h / 72057594037927936, (E k).o + 1) i = s.1 i := by simp [Tb.put, e]
        rw [e2]
        exact h.tag i hi
    · rw [occ_put s.1 R.1 _ _ hz0 (by omega), if_pos hrlt, h.cnt, hf, hfirst]
      rfl
    · by_cases e : j = k
      · subst e
        exact hself
      · have hj2 := h.fnd j (by omega)
        rw [Tb.look_put_other N (nmAt z L) s.1 _ _ R.1 _ hz0 N _ (hfit (E j).h).free hj2]
        exact hj2
  | false =>
    have hfd := Tb.look_found N (nmAt z L) s.1 _ _ N _ hfree hr
    have hfirst : isFirst (fun i => (E i).l) k = false := by
      obtain ⟨j, hj, e⟩ := h.src _ hrlt hfd.1
      have e2 := hfd.2
      rw [e, Nat.add_sub_cancel, nmAt_eq (hp.cl j (by omega))] at e2
      exact isFirst_iff.2 ⟨j, hj, e2⟩
    simp only [Bool.false_eq_true, if_false]
    refine ⟨fun i hi h0 => ?_, h.tag, ?_, fun j hj => ?_⟩
    · obtain ⟨j, hj, e3⟩ := h.src i hi h0
      exact ⟨j, by omega, e3⟩
    · rw [h.cnt, hf, hfirst]
      rfl
    · by_cases e : j = k
      · subst e
        exact hr
      · exact h.fnd j (by omega)

theorem occ_zero : ∀ n, occ (fun _ => (0, 0)) n = 0
  | 0 => rfl
  | n + 1 => by unfold occ; rw [occ_zero n]; rfl

theorem Inv.run {N L n : Nat} {z : Nat → Nat} {E : Nat → Ent} (hp : Plain N L n z E) (D : Option (Nat → Int)) : ∀ k, k ≤ n → Inv N L z E k (run N (nmAt z L) (fun _ => (0, 0), D) E k).1
  | 0, _ => ⟨fun _ _ h => absurd rfl h, fun _ _ => by show 0 < 256; decide, occ_zero N, fun _ h => absurd h (Nat.not_lt_zero _)⟩
  | k + 1, h => (Inv.run hp D k (by omega)).step hp (by omega)

theorem run_add (N : Nat) (nm : Nat → List UInt8) (s : (Nat → Nat × Nat) × Option (Nat → Int)) (E : Nat → Ent) (a : Nat) : ∀ b, run N nm s E (a + b) = run N nm (run N nm s E a) (fun i => E (a + i)) b
  | 0 => rfl
  | b + 1 => by
    show W.step N nm (run N nm s E (a + b)) (E (a + b)) = _
    rw [run_add N nm s E a b]
    rfl

end Go.Proofs.Qxb6613752aDoor.W
