namespace Go.Proofs.Qxb6613752aDoor.Tb

/-- The search from slot i on: the slot where it ends, and whether that slot is free. -/
def look (N : Nat) (nm : Nat → List UInt8) (T : Nat → Nat × Nat) (t : Nat) (l : List UInt8) : Nat → Nat → Nat × Bool
  | 0, i => (i, false)
  | f + 1, i => if (T i).2 = 0 then (i, true) else if (T i).1 = t ∧ nm ((T i).2 - 1) = l then (i, false) else look N nm T t l f (if i + 1 = N then 0 else i + 1)

/-- The table with slot i filled. -/
def put (T : Nat → Nat × Nat) (i : Nat) (e : Nat × Nat) : Nat → Nat × Nat := fun j => if j = i then e else T j

/-- A free slot within f steps from i on. -/
def Free (N : Nat) (T : Nat → Nat × Nat) : Nat → Nat → Prop
  | 0, _ => False
  | f + 1, i => (T i).2 = 0 ∨ Free N T f (if i + 1 = N then 0 else i + 1)

theorem look_lt (N : Nat) (nm : Nat → List UInt8) (T : Nat → Nat × Nat) (t : Nat) (l : List UInt8) : ∀ f i, i < N → (look N nm T t l f i).1 < N
  | 0, _, h => h
  | f + 1, i, h => by
    unfold look
    split
    · exact h
    · split
      · exact h
      · exact look_lt N nm T t l f _ (by split <;> omega)

/-- The search that says 'free' ends at a free slot. -/
theorem look_free (N : Nat) (nm : Nat → List UInt8) (T : Nat → Nat × Nat) (t : Nat) (l : List UInt8) : ∀ f i, (look N nm T t l f i).2 = true → (T (look N nm T t l f i).1).2 = 0
  | 0, _, h => by simp [look] at h
  | f + 1, i, h => by
    unfold look at h ⊢
    split
    · rename_i e; exact e
    · rename_i e
      rw [if_neg e] at h
      split
      · rename_i e2; rw [if_pos e2] at h; simp at h
      · rename_i e2
        rw [if_neg e2] at h
        exact look_free N nm T t l f _ h

/-- The search that says 'not free', a free slot being in reach, ends at a slot that holds the name. -/
theorem look_found (N : Nat) (nm : Nat → List UInt8) (T : Nat → Nat × Nat) (t : Nat) (l : List UInt8) : ∀ f i, Free N T f i → (look N nm T t l f i).2 = false →
    (T (look N nm T t l f i).1).2 ≠ 0 ∧ nm ((T (look N nm T t l f i).1).2 - 1) = l
  | 0, _, hf, _ => hf.elim
  | f + 1, i, hf, h => by
    unfold look at h ⊢
    split
    · rename_i e; rw [if_pos e] at h; simp at h
    · rename_i e
      rw [if_neg e] at h
      split
      · rename_i e2; exact ⟨e, e2.2⟩
      · rename_i e2
        rw [if_neg e2] at h
        rcases hf with hf | hf
        · exact absurd hf e
        · exact look_found N nm T t l f _ hf h

/-- What was found is found after another slot, free till then, is filled. -/
theorem look_put_other (N : Nat) (nm : Nat → List UInt8) (T : Nat → Nat × Nat) (t : Nat) (l : List UInt8) (p : Nat) (e : Nat × Nat) (hp : (T p).2 = 0) :
    ∀ f i, Free N T f i → (look N nm T t l f i).2 = false → look N nm (put T p e) t l f i = look N nm T t l f i
  | 0, _, hf, _ => hf.elim
  | f + 1, i, hf, h => by
    unfold look at h ⊢
    by_cases c : (T i).2 = 0
    · rw [if_pos c] at h; simp at h
    · have hi : i ≠ p := fun e => c (e ▸ hp)
      have ei : put T p e i = T i := by simp [put, hi]
      rw [ei]
      rw [if_neg c] at h ⊢
      by_cases c2 : (T i).1 = t ∧ nm ((T i).2 - 1) = l
      · rw [if_pos c2]; rw [if_neg c, if_pos c2]
      · rw [if_neg c2] at h ⊢
        rw [if_neg c, if_neg c2]
        rcases hf with hf | hf
        · exact absurd hf c
        · exact look_put_other N nm T t l p e hp f _ hf h

/-- What is put where its search ended is found there. -/
theorem look_put_self (N : Nat) (nm : Nat → List UInt8) (T : Nat → Nat × Nat) (t : Nat) (l : List UInt8) (v : Nat) (hv : v ≠ 0) (hn : nm (v - 1) = l) :
    ∀ f i, (look N nm T t l f i).2 = true → (look N nm (put T (look N nm T t l f i).1 (t, v)) t l f i).2 = false
  | 0, _, h => by simp [look] at h
  | f + 1, i, h => by
    by_cases c : (T i).2 = 0
    · have e : look N nm T t l (f + 1) i = (i, true) := by rw [look, if_pos c]
      rw [e]
      simp [look, put, hv, hn]
    · by_cases c2 : (T i).1 = t ∧ nm ((T i).2 - 1) = l
      · rw [look, if_neg c, if_pos c2] at h; simp at h
      · have e : look N nm T t l (f + 1) i = look N nm T t l f (if i + 1 = N then 0 else i + 1) := by rw [look, if_neg c, if_neg c2]
        rw [e] at h ⊢
        have hfree := look_free N nm T t l f _ h
        have hi : i ≠ (look N nm T t l f (if i + 1 = N then 0 else i + 1)).1 := fun e => by rw [← e] at hfree; exact c hfree
        rw [look]
        have ei : put T (look N nm T t l f (if i + 1 = N then 0 else i + 1)).1 (t, v) i = T i := by simp [put, hi]
        rw [ei, if_neg c, if_neg c2]
        exact look_put_self N nm T t l v hv hn f _ h

end Go.Proofs.Qxb6613752aDoor.Tb
