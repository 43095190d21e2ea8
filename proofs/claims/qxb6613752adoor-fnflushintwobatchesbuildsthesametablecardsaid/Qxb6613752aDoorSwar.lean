import Derived.Lib.TrailingZeros
namespace Go.Proofs.Qxb6613752aDoor.Swar

/-- n ones, one in each byte. -/
def E : Nat → Nat
  | 0 => 0
  | n + 1 => 1 + 256 * E n

theorem E_lt : ∀ n, E n < 256 ^ n
  | 0 => by simp [E]
  | n + 1 => by have := E_lt n; simp only [E, Nat.pow_succ]; omega

/-- The top bit of each byte that is 0, and maybe of bytes above such a byte. -/
def f (n X : Nat) : Nat := ((X + (256 ^ n - E n)) % 256 ^ n &&& (256 ^ n - 1 - X)) &&& 128 * E n

theorem parts (z : Nat) : z = z % 256 + 256 * (z / 256) := by omega

theorem and_parts (a c p q : Nat) (ha : a < 256) (hc : c < 256) : (a + 256 * p) &&& (c + 256 * q) = (a &&& c) + 256 * (p &&& q) := by
  rw [parts ((a + 256 * p) &&& (c + 256 * q))]
  have h1 : ((a + 256 * p) &&& (c + 256 * q)) % 256 = a &&& c := by
    rw [show (256 : Nat) = 2 ^ 8 from rfl, Nat.and_mod_two_pow]
    congr 1 <;> omega
  have h2 : ((a + 256 * p) &&& (c + 256 * q)) / 256 = p &&& q := by
    rw [show (256 : Nat) = 2 ^ 8 from rfl, Nat.and_div_two_pow]
    congr 1 <;> omega
  rw [h1, h2]

theorem or_parts (a c p q : Nat) (ha : a < 256) (hc : c < 256) : (a + 256 * p) ||| (c + 256 * q) = (a ||| c) + 256 * (p ||| q) := by
  rw [parts ((a + 256 * p) ||| (c + 256 * q))]
  have h1 : ((a + 256 * p) ||| (c + 256 * q)) % 256 = a ||| c := by
    rw [show (256 : Nat) = 2 ^ 8 from rfl, Nat.or_mod_two_pow]
    congr 1 <;> omega
  have h2 : ((a + 256 * p) ||| (c + 256 * q)) / 256 = p ||| q := by
    rw [show (256 : Nat) = 2 ^ 8 from rfl, Nat.or_div_two_pow]
    congr 1 <;> omega
  rw [h1, h2]

theorem xor_parts (a c p q : Nat) (ha : a < 256) (hc : c < 256) : (a + 256 * p) ^^^ (c + 256 * q) = (a ^^^ c) + 256 * (p ^^^ q) := by
  rw [parts ((a + 256 * p) ^^^ (c + 256 * q))]
  have h1 : ((a + 256 * p) ^^^ (c + 256 * q)) % 256 = a ^^^ c := by
    rw [show (256 : Nat) = 2 ^ 8 from rfl, Nat.xor_mod_two_pow]
    congr 1 <;> omega
  have h2 : ((a + 256 * p) ^^^ (c + 256 * q)) / 256 = p ^^^ q := by
    rw [show (256 : Nat) = 2 ^ 8 from rfl, Nat.xor_div_two_pow]
    congr 1 <;> omega
  rw [h1, h2]

theorem low_some : ∀ b : Fin 256, b.val ≠ 0 → ((b.val - 1) &&& (255 - b.val)) &&& 128 = 0 := by decide +kernel

theorem f_some (n b y : Nat) (hb : b < 256) (h0 : b ≠ 0) (hy : y < 256 ^ n) : f (n + 1) (b + 256 * y) = 256 * f n y := by
  have hE := E_lt n
  unfold f
  have e1 : (b + 256 * y + (256 ^ (n + 1) - E (n + 1))) % 256 ^ (n + 1) = (b - 1) + 256 * ((y + (256 ^ n - E n)) % 256 ^ n) := by
    have h : b + 256 * y + (256 ^ (n + 1) - E (n + 1)) = (b - 1) + 256 * (y + (256 ^ n - E n)) := by
      simp only [E, Nat.pow_succ]; omega
    rw [h, Nat.pow_succ, Nat.mul_comm (256 ^ n) 256, Nat.mod_mul]
    rw [show (b - 1 + 256 * (y + (256 ^ n - E n))) % 256 = b - 1 by omega, show (b - 1 + 256 * (y + (256 ^ n - E n))) / 256 = y + (256 ^ n - E n) by omega]
  have e2 : 256 ^ (n + 1) - 1 - (b + 256 * y) = (255 - b) + 256 * (256 ^ n - 1 - y) := by
    rw [Nat.pow_succ]; omega
  have e3 : 128 * E (n + 1) = 128 + 256 * (128 * E n) := by simp only [E]; omega
  rw [e1, e2, e3, and_parts _ _ _ _ (by omega) (by omega), and_parts _ _ _ _ (Nat.lt_of_le_of_lt Nat.and_le_left (by omega)) (by omega)]
  have := low_some ⟨b, hb⟩ h0
  simp only at this
  rw [this]
  omega

theorem f_none (n y : Nat) (hy : y < 256 ^ n) : f (n + 1) (0 + 256 * y) % 256 = 128 := by
  have hE := E_lt n
  unfold f
  have e1 : ∃ k, (0 + 256 * y + (256 ^ (n + 1) - E (n + 1))) % 256 ^ (n + 1) = 255 + 256 * k := by
    have h : 0 + 256 * y + (256 ^ (n + 1) - E (n + 1)) = 255 + 256 * (y + (256 ^ n - E n) - 1) := by
      simp only [E, Nat.pow_succ]; omega
    refine ⟨(y + (256 ^ n - E n) - 1) % 256 ^ n, ?_⟩
    rw [h, Nat.pow_succ, Nat.mul_comm (256 ^ n) 256, Nat.mod_mul]
    generalize y + (256 ^ n - E n) - 1 = t
    rw [show (255 + 256 * t) % 256 = 255 by omega, show (255 + 256 * t) / 256 = t by omega]
  obtain ⟨k, e1⟩ := e1
  have e2 : 256 ^ (n + 1) - 1 - (0 + 256 * y) = 255 + 256 * (256 ^ n - 1 - y) := by
    rw [Nat.pow_succ]; omega
  have e3 : 128 * E (n + 1) = 128 + 256 * (128 * E n) := by simp only [E]; omega
  rw [e1, e2, e3, and_parts _ _ _ _ (by omega) (by omega), and_parts _ _ _ _ (by decide) (by omega)]
  rw [show (255 &&& 255) &&& 128 = 128 from rfl]
  omega

/-- The number that bytes spell, the least first. -/
def word : List Nat → Nat
  | [] => 0
  | b :: bs => b + 256 * word bs

theorem word_lt : ∀ bs : List Nat, (∀ b ∈ bs, b < 256) → word bs < 256 ^ bs.length
  | [], _ => by simp [word]
  | b :: bs, h => by
    have h1 := h b List.mem_cons_self
    have h2 := word_lt bs fun x hx => h x (List.mem_cons_of_mem _ hx)
    simp only [word, List.length_cons, Nat.pow_succ]
    omega

/-- 'quoteOrBackslash' on n bytes. -/
def m (n x : Nat) : Nat := f n (x ^^^ E n * 34) ||| f n (x ^^^ E n * 92)

theorem f_lt (n X : Nat) : f n X < 256 ^ n := by
  unfold f
  have h : (X + (256 ^ n - E n)) % 256 ^ n < 256 ^ n := Nat.mod_lt _ (Nat.pow_pos (by decide))
  have a := @Nat.and_le_left ((X + (256 ^ n - E n)) % 256 ^ n) (256 ^ n - 1 - X)
  have b := @Nat.and_le_left ((X + (256 ^ n - E n)) % 256 ^ n &&& (256 ^ n - 1 - X)) (128 * E n)
  omega

theorem mul_E (n c : Nat) : E (n + 1) * c = c + 256 * (E n * c) := by
  simp only [E]
  rw [Nat.add_mul, Nat.one_mul, Nat.mul_assoc]

theorem xor_lt (n y c : Nat) (hc : c < 256) (hy : y < 256 ^ n) : y ^^^ E n * c < 256 ^ n := by
  have h : E n * c < 256 ^ n := by
    have : ∀ n, E n * c < 256 ^ n := by
      intro n
      induction n with
      | zero => simp [E]
      | succ n ih => rw [mul_E, Nat.pow_succ]; omega
    exact this n
  rw [show (256 : Nat) = 2 ^ 8 from rfl, ← Nat.pow_mul] at hy h ⊢
  exact Nat.xor_lt_two_pow hy h

theorem xor_ne : ∀ b : Fin 256, (b.val ≠ 34 → b.val ^^^ 34 ≠ 0) ∧ (b.val ≠ 92 → b.val ^^^ 92 ≠ 0) ∧ b.val ^^^ 34 < 256 ∧ b.val ^^^ 92 < 256 := by decide +kernel

theorem f_any (n b y : Nat) (hb : b < 256) (hy : y < 256 ^ n) : f (n + 1) (b + 256 * y) % 256 = 0 ∨ f (n + 1) (b + 256 * y) % 256 = 128 := by
  by_cases h : b = 0
  · subst h; exact .inr (f_none n y hy)
  · rw [f_some n b y hb h hy]; left; omega

theorem m_plain (n b y : Nat) (hb : b < 256) (h1 : b ≠ 34) (h2 : b ≠ 92) (hy : y < 256 ^ n) : m (n + 1) (b + 256 * y) = 256 * m n y := by
  have hx := xor_ne ⟨b, hb⟩
  simp only at hx
  unfold m
  rw [mul_E, mul_E, xor_parts _ _ _ _ hb (by decide), xor_parts _ _ _ _ hb (by decide), f_some _ _ _ hx.2.2.1 (hx.1 h1) (xor_lt _ _ _ (by decide) hy), f_some _ _ _ hx.2.2.2 (hx.2.1 h2) (xor_lt _ _ _ (by decide) hy)]
  have := or_parts 0 0 (f n (y ^^^ E n * 34)) (f n (y ^^^ E n * 92)) (by decide) (by decide)
  simpa using this

theorem m_hit (n b y : Nat) (hb : b < 256) (h : b = 34 ∨ b = 92) (hy : y < 256 ^ n) : ∃ k, m (n + 1) (b + 256 * y) = 128 + 256 * k := by
  have hx := xor_ne ⟨b, hb⟩
  simp only at hx
  refine ⟨m (n + 1) (b + 256 * y) / 256, ?_⟩
  have key : m (n + 1) (b + 256 * y) % 256 = 128 := by
    unfold m
    rw [mul_E, mul_E, xor_parts _ _ _ _ hb (by decide), xor_parts _ _ _ _ hb (by decide)]
    rw [show (256 : Nat) = 2 ^ 8 from rfl, Nat.or_mod_two_pow, show (2 : Nat) ^ 8 = 256 from rfl]
    rcases h with h | h
    · have a : f (n + 1) ((b ^^^ 34) + 256 * (y ^^^ E n * 34)) % 256 = 128 := by
        rw [h]; exact f_none n _ (xor_lt _ _ _ (by decide) hy)
      rcases f_any n (b ^^^ 92) (y ^^^ E n * 92) hx.2.2.2 (xor_lt _ _ _ (by decide) hy) with c | c <;> rw [a, c] <;> rfl
    · have a : f (n + 1) ((b ^^^ 92) + 256 * (y ^^^ E n * 92)) % 256 = 128 := by
        rw [h]; exact f_none n _ (xor_lt _ _ _ (by decide) hy)
      rcases f_any n (b ^^^ 34) (y ^^^ E n * 34) hx.2.2.1 (xor_lt _ _ _ (by decide) hy) with c | c <;> rw [a, c] <;> rfl
  omega

/-- No quote and no backslash among the bytes: nothing is marked. -/
theorem m_none : ∀ bs : List Nat, (∀ b ∈ bs, b < 256 ∧ b ≠ 34 ∧ b ≠ 92) → m bs.length (word bs) = 0
  | [], _ => by decide
  | b :: bs, h => by
    have hb := h b List.mem_cons_self
    have hs : ∀ x ∈ bs, x < 256 ∧ x ≠ 34 ∧ x ≠ 92 := fun x hx => h x (List.mem_cons_of_mem _ hx)
    have := m_none bs hs
    rw [List.length_cons, word, m_plain _ _ _ hb.1 hb.2.1 hb.2.2 (word_lt bs fun x hx => (hs x hx).1), this]

/-- The first quote or backslash stands behind 'pre': the lowest mark is that byte's. -/
theorem m_some : ∀ (pre : List Nat) (q : Nat) (post : List Nat), (∀ b ∈ pre, b < 256 ∧ b ≠ 34 ∧ b ≠ 92) → q < 256 → (q = 34 ∨ q = 92) → (∀ b ∈ post, b < 256) →
    ∃ k, m (pre ++ q :: post).length (word (pre ++ q :: post)) = 2 ^ (8 * pre.length + 7) * (2 * k + 1)
  | [], q, post, _, hq, h, hp => by
    obtain ⟨k, hk⟩ := m_hit post.length q (word post) hq h (word_lt post hp)
    refine ⟨k, ?_⟩
    simp only [List.nil_append, List.length_cons, word, List.length_nil]
    rw [hk]
    omega
  | b :: pre, q, post, hpre, hq, h, hp => by
    have hb := hpre b List.mem_cons_self
    have hs : ∀ x ∈ pre, x < 256 ∧ x ≠ 34 ∧ x ≠ 92 := fun x hx => hpre x (List.mem_cons_of_mem _ hx)
    obtain ⟨k, hk⟩ := m_some pre q post hs hq h hp
    refine ⟨k, ?_⟩
    have hw : word (pre ++ q :: post) < 256 ^ (pre ++ q :: post).length := word_lt _ (by
      intro x hx
      rw [List.mem_append, List.mem_cons] at hx
      rcases hx with hx | rfl | hx
      · exact (hs x hx).1
      · exact hq
      · exact hp x hx)
    rw [List.cons_append, List.length_cons, word, m_plain _ _ _ hb.1 hb.2.1 hb.2.2 hw, hk, List.length_cons, show 8 * (pre.length + 1) + 7 = 8 + (8 * pre.length + 7) by omega, Nat.pow_add 2 8, Nat.mul_assoc]

theorem ctzFrom_pow : ∀ (j f k : Nat), j < f → Lib.ctzFrom f (2 ^ j * (2 * k + 1)) = j
  | 0, f + 1, k, _ => by simp [Lib.ctzFrom, Nat.add_mod, Nat.mul_mod_right]
  | j + 1, f + 1, k, h => by
    have e : 2 ^ (j + 1) * (2 * k + 1) = 2 * (2 ^ j * (2 * k + 1)) := by rw [Nat.pow_succ, Nat.mul_comm (2 ^ j) 2, Nat.mul_assoc]
    rw [e, Lib.ctzFrom, if_neg (by omega), show 2 * (2 ^ j * (2 * k + 1)) / 2 = 2 ^ j * (2 * k + 1) by omega, ctzFrom_pow j f k (by omega)]
    omega

theorem ctz_pow (j k : Nat) (h : j < 64) : Lib.ctz 64 (2 ^ j * (2 * k + 1)) = j := by
  unfold Lib.ctz
  rw [if_neg (by have := Nat.mul_pos (Nat.pow_pos (a := 2) (n := j) (by decide)) (show 0 < 2 * k + 1 by omega); omega)]
  exact ctzFrom_pow j 64 k h

/-- The word of the eight bytes from k on. -/
def word8 (z : Nat → Nat) (k : Nat) : Nat := word ((List.range 8).map fun j => z (k + j))

theorem word8_eq (z : Nat → Nat) (k : Nat) : word8 z k = z k + 256 * (z (k + 1) + 256 * (z (k + 2) + 256 * (z (k + 3) + 256 * (z (k + 4) + 256 * (z (k + 5) + 256 * (z (k + 6) + 256 * z (k + 7))))))) := by
  simp [word8, List.range_succ, word]

theorem word8_lt (z : Nat → Nat) (k : Nat) (h : ∀ j, j < 8 → z (k + j) < 256) : word8 z k < 18446744073709551616 := by
  have := word_lt ((List.range 8).map fun j => z (k + j)) (by
    intro b hb
    obtain ⟨j, hj, rfl⟩ := List.mem_map.1 hb
    exact h j (List.mem_range.1 hj))
  simpa [word8] using this

theorem m8_plain (z : Nat → Nat) (k : Nat) (h : ∀ j, j < 8 → z (k + j) < 256 ∧ z (k + j) ≠ 34 ∧ z (k + j) ≠ 92) : m 8 (word8 z k) = 0 := by
  have := m_none ((List.range 8).map fun j => z (k + j)) (by
    intro b hb
    obtain ⟨j, hj, rfl⟩ := List.mem_map.1 hb
    exact h j (List.mem_range.1 hj))
  simpa [word8] using this

theorem m8_hit (z : Nat → Nat) (k d : Nat) (hd : d < 8) (h : ∀ j, j < d → z (k + j) ≠ 34 ∧ z (k + j) ≠ 92) (hb : ∀ j, j < 8 → z (k + j) < 256) (hq : z (k + d) = 34) :
    ∃ c, m 8 (word8 z k) = 2 ^ (8 * d + 7) * (2 * c + 1) := by
  have e : (List.range 8).map (fun j => z (k + j)) = (List.range d).map (fun j => z (k + j)) ++ z (k + d) :: (List.range (7 - d)).map (fun j => z (k + (d + 1 + j))) := by
    rw [show 8 = d + (1 + (7 - d)) by omega, List.range_add, List.map_append, List.range_add]
    simp [List.map_map, Function.comp_def, Nat.add_assoc]
  obtain ⟨c, hc⟩ := m_some ((List.range d).map (fun j => z (k + j))) (z (k + d)) ((List.range (7 - d)).map (fun j => z (k + (d + 1 + j))))
    (by intro b hb'; obtain ⟨j, hj, rfl⟩ := List.mem_map.1 hb'; have := List.mem_range.1 hj; exact ⟨hb j (by omega), h j this⟩)
    (by rw [hq]; decide) (.inl hq)
    (by intro b hb'; obtain ⟨j, hj, rfl⟩ := List.mem_map.1 hb'; have := List.mem_range.1 hj; exact hb (d + 1 + j) (by omega))
  refine ⟨c, ?_⟩
  rw [← e] at hc
  simpa [word8] using hc

end Go.Proofs.Qxb6613752aDoor.Swar
