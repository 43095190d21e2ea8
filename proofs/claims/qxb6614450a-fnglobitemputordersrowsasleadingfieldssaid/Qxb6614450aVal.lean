import Derived.Lib.Bytealg
/-! Ids as numbers: no Go in sight. -/
namespace Go.Proofs.Qxb6614450a.W

/-- The number that the first n bytes spell, the greatest first. -/
def val (f : Nat → Nat) : Nat → Nat
  | 0 => 0
  | n + 1 => val f n * 256 + f n

theorem val_congr {f g : Nat → Nat} : ∀ {n : Nat}, (∀ j, j < n → f j = g j) → val f n = val g n
  | 0, _ => rfl
  | n + 1, h => by
    unfold val
    rw [val_congr fun j hj => h j (by omega), h n (by omega)]

theorem val_lt_up {f g : Nat → Nat} (hf : ∀ j, f j < 256) {k : Nat} (h : val f k < val g k) : ∀ n, k ≤ n → val f n < val g n
  | 0, hk => by
    obtain rfl : k = 0 := by omega
    exact h
  | n + 1, hk => by
    by_cases e : k = n + 1
    · rw [← e]; exact h
    · have := val_lt_up hf h n (by omega)
      have := hf n
      unfold val
      omega

theorem val_bound {f : Nat → Nat} (hf : ∀ j, f j < 256) : ∀ n, val f n < 256 ^ n
  | 0 => by simp [val]
  | n + 1 => by
    have := val_bound hf n
    have := hf n
    unfold val
    rw [Nat.pow_succ]
    omega

theorem val_add (f : Nat → Nat) (k : Nat) : ∀ m, val f (k + m) = val f k * 256 ^ m + val (fun j => f (k + j)) m
  | 0 => by simp [val]
  | m + 1 => by
    rw [show k + (m + 1) = (k + m) + 1 by omega]
    show val f (k + m) * 256 + f (k + m) = val f k * 256 ^ (m + 1) + (val (fun j => f (k + j)) m * 256 + f (k + m))
    rw [val_add f k m, Nat.pow_succ, Nat.add_mul, Nat.mul_assoc, Nat.add_assoc]

/-- Three ways. -/
def cmp3 (a b : Nat) : Int := if a < b then -1 else if b < a then 1 else 0

theorem cmp3_lt {a b : Nat} (h : a < b) : cmp3 a b = -1 := by simp [cmp3, h]
theorem cmp3_gt {a b : Nat} (h : b < a) : cmp3 a b = 1 := by have : ¬ a < b := by omega
                                                             simp [cmp3, h, this]
theorem cmp3_eq {a b : Nat} (h : a = b) : cmp3 a b = 0 := by simp [cmp3, h]

theorem cmp3_val_lt {f g : Nat → Nat} (hf : ∀ j, f j < 256) {k n : Nat} (hk : k < n) (h : ∀ j, j < k → f j = g j) (hl : f k < g k) : cmp3 (val f n) (val g n) = -1 := by
  refine cmp3_lt (val_lt_up hf (k := k + 1) ?_ n (by omega))
  unfold val
  rw [val_congr h]
  omega

theorem cmp3_val_gt {f g : Nat → Nat} (hg : ∀ j, g j < 256) {k n : Nat} (hk : k < n) (h : ∀ j, j < k → f j = g j) (hl : g k < f k) : cmp3 (val f n) (val g n) = 1 := by
  refine cmp3_gt (val_lt_up hg (k := k + 1) ?_ n (by omega))
  unfold val
  rw [val_congr h]
  omega

theorem cmp3_val_eq {f g : Nat → Nat} {n : Nat} (h : ∀ j, j < n → f j = g j) : cmp3 (val f n) (val g n) = 0 := cmp3_eq (val_congr h)

theorem cmp3_pos (a b : Nat) : decide (cmp3 a b > 0) = decide (b < a) := by
  unfold cmp3
  split
  · simp; omega
  · split <;> simp [*]
theorem cmp3_neg (a b : Nat) : decide (cmp3 a b < 0) = decide (a < b) := by
  unfold cmp3
  split
  · simp [*]
  · split <;> simp [*]
theorem cmp3_zero (a b : Nat) : (cmp3 a b == 0) = decide (a = b) := by
  unfold cmp3
  split
  · have : a ≠ b := by omega
    simp [this]
  · split
    · have : a ≠ b := by omega
      simp [this]
    · have : a = b := by omega
      simp [this]

/-- The first eight bytes settle it, or the other twelve do. -/
theorem cmp3_split {f g : Nat → Nat} (hf : ∀ j, f j < 256) (hg : ∀ j, g j < 256) :
    cmp3 (val f 20) (val g 20) = if val f 8 = val g 8 then cmp3 (val (fun j => f (8 + j)) 12) (val (fun j => g (8 + j)) 12) else cmp3 (val f 8) (val g 8) := by
  have e1 := val_add f 8 12
  have e2 := val_add g 8 12
  have b1 := val_bound (f := fun j => f (8 + j)) (fun j => hf (8 + j)) 12
  have b2 := val_bound (f := fun j => g (8 + j)) (fun j => hg (8 + j)) 12
  generalize val (fun j => f (8 + j)) 12 = p at *
  generalize val (fun j => g (8 + j)) 12 = q at *
  generalize val f 8 = x at *
  generalize val g 8 = y at *
  simp only [show (8 + 12 : Nat) = 20 from rfl, show (256 ^ 12 : Nat) = 79228162514264337593543950336 from by decide] at e1 e2 b1 b2
  rw [e1, e2]
  split
  · next h =>
    subst h
    unfold cmp3
    have i1 : (x * 79228162514264337593543950336 + p < x * 79228162514264337593543950336 + q) = (p < q) := by simp
    have i2 : (x * 79228162514264337593543950336 + q < x * 79228162514264337593543950336 + p) = (q < p) := by simp
    simp only [i1, i2]
  · next h =>
    by_cases hlt : x < y
    · rw [cmp3_lt hlt, cmp3_lt (by omega)]
    · rw [cmp3_gt (show y < x by omega), cmp3_gt (by omega)]

theorem val_cons (f : Nat → Nat) (n : Nat) : val f (n + 1) = f 0 * 256 ^ n + val (fun j => f (j + 1)) n := by
  rw [show n + 1 = 1 + n by omega, val_add]
  have : (fun j => f (1 + j)) = fun j => f (j + 1) := by funext j; rw [Nat.add_comm]
  rw [this]
  simp [val]

/-- The bytes of a function. -/
def byts (f : Nat → Nat) (n : Nat) : List UInt8 := (List.range n).map fun i => UInt8.ofNat (f i)

theorem compareBytes_val : ∀ (n : Nat) (f g : Nat → Nat), (∀ j, f j < 256) → (∀ j, g j < 256) → Lib.compareBytes (byts f n) (byts g n) = cmp3 (val f n) (val g n)
  | 0, f, g, _, _ => by simp [byts, Lib.compareBytes, val, cmp3]
  | n + 1, f, g, hf, hg => by
    have ih := compareBytes_val n (fun j => f (j + 1)) (fun j => g (j + 1)) (fun j => hf _) (fun j => hg _)
    have e : ∀ h : Nat → Nat, byts h (n + 1) = UInt8.ofNat (h 0) :: byts (fun j => h (j + 1)) n := fun h => by
      simp [byts, List.range_succ_eq_map]
    rw [e f, e g]
    unfold Lib.compareBytes
    rw [ih]
    have p : 0 < 256 ^ n := Nat.pow_pos (by decide)
    have b1 := val_bound (f := fun j => f (j + 1)) (fun j => hf _) n
    have b2 := val_bound (f := fun j => g (j + 1)) (fun j => hg _) n
    have l1 : (UInt8.ofNat (f 0) < UInt8.ofNat (g 0)) = (f 0 < g 0) := by
      have := hf 0; have := hg 0
      rw [UInt8.lt_iff_toNat_lt]
      simp
      omega
    have l2 : (UInt8.ofNat (g 0) < UInt8.ofNat (f 0)) = (g 0 < f 0) := by
      have := hf 0; have := hg 0
      rw [UInt8.lt_iff_toNat_lt]
      simp
      omega
    simp only [l1, l2]
    rw [val_cons f n, val_cons g n]
    generalize val (fun j => f (j + 1)) n = x at *
    generalize val (fun j => g (j + 1)) n = y at *
    generalize 256 ^ n = z at *
    generalize f 0 = u at *
    generalize g 0 = v at *
    split
    · next h =>
      rw [cmp3_lt]
      have : (u + 1) * z ≤ v * z := Nat.mul_le_mul_right _ h
      rw [Nat.add_mul] at this
      omega
    · split
      · next h =>
        rw [cmp3_gt]
        have : (v + 1) * z ≤ u * z := Nat.mul_le_mul_right _ h
        rw [Nat.add_mul] at this
        omega
      · obtain rfl : u = v := by omega
        unfold cmp3
        have i1 : (u * z + x < u * z + y) = (x < y) := by simp
        have i2 : (u * z + y < u * z + x) = (y < x) := by simp
        simp only [i1, i2]

/-- The word that eight bytes spell, the greatest first. -/
theorem val8 (f : Nat → Nat) : val f 8 = f 7 + 256 * (f 6 + 256 * (f 5 + 256 * (f 4 + 256 * (f 3 + 256 * (f 2 + 256 * (f 1 + 256 * f 0)))))) := by
  simp only [val]
  omega

attribute [irreducible] val

end Go.Proofs.Qxb6614450a.W
