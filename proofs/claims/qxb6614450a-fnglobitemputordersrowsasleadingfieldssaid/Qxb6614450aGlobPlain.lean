import Derived.Test.Qxb6614450aSix
/-! The row of a glob item, plainly: its bytes, their order. -/
namespace Go.Proofs.Qxb6614450a.W
open Go.RowKit

/-- v's k lowest bytes, the greatest first. -/
def be : Nat → Nat → List Nat
  | 0, _ => []
  | k + 1, v => (v / 256 ^ k % 256) :: be k v

theorem be_len : ∀ k v, (be k v).length = k
  | 0, _ => rfl
  | k + 1, v => by simp [be, be_len k v]

theorem be_small : ∀ k v, ∀ x ∈ be k v, x < 256
  | 0, _, x, h => by simp [be] at h
  | k + 1, v, x, h => by
    simp only [be, List.mem_cons] at h
    rcases h with rfl | h
    · omega
    · exact be_small k v x h

/-- The order of two rows of the same length. -/
def cmpL : List Nat → List Nat → Int
  | x :: xs, y :: ys => if x < y then -1 else if y < x then 1 else cmpL xs ys
  | _, _ => 0

theorem cmpL_append : ∀ (a a' b b' : List Nat), a.length = a'.length → cmpL (a ++ b) (a' ++ b') = if cmpL a a' = 0 then cmpL b b' else cmpL a a'
  | [], [], b, b', _ => by simp [cmpL]
  | x :: xs, y :: ys, b, b', h => by
    have ih := cmpL_append xs ys b b' (by simpa using h)
    simp only [List.cons_append, cmpL]
    split
    · simp
    · split
      · simp
      · exact ih
  | [], _ :: _, _, _, h => by simp at h
  | _ :: _, [], _, _, h => by simp at h

theorem cmpL_zero : ∀ (a a' : List Nat), a.length = a'.length → (cmpL a a' = 0 ↔ a = a')
  | [], [], _ => by simp [cmpL]
  | x :: xs, y :: ys, h => by
    have ih := cmpL_zero xs ys (by simpa using h)
    simp only [cmpL, List.cons.injEq]
    split
    · constructor
      · intro h; simp at h
      · rintro ⟨rfl, _⟩; omega
    · split
      · constructor
        · intro h; simp at h
        · rintro ⟨rfl, _⟩; omega
      · rw [ih]
        constructor
        · intro h; exact ⟨by omega, h⟩
        · exact fun h => h.2
  | [], _ :: _, h => by simp at h
  | _ :: _, [], h => by simp at h

theorem cmp3_lex (B p q r s : Nat) (hr : r < B) (hs : s < B) : cmp3 (r + B * p) (s + B * q) = if p < q then -1 else if q < p then 1 else cmp3 r s := by
  by_cases h1 : p < q
  · have : B * (p + 1) ≤ B * q := Nat.mul_le_mul_left _ h1
    have e : B * (p + 1) = B * p + B := by rw [Nat.mul_add, Nat.mul_one]
    rw [if_pos h1]
    exact cmp3_lt (by omega)
  · rw [if_neg h1]
    by_cases h2 : q < p
    · have : B * (q + 1) ≤ B * p := Nat.mul_le_mul_left _ h2
      have e : B * (q + 1) = B * q + B := by rw [Nat.mul_add, Nat.mul_one]
      rw [if_pos h2]
      exact cmp3_gt (by omega)
    · rw [if_neg h2]
      obtain rfl : p = q := by omega
      simp only [cmp3, Nat.add_lt_add_iff_right]

theorem cmpL_be (x y : Nat) : ∀ k, cmpL (be k x) (be k y) = cmp3 (x % 256 ^ k) (y % 256 ^ k)
  | 0 => by simp [be, cmpL, cmp3, Nat.mod_one]
  | k + 1 => by
    have ih := cmpL_be x y k
    have hp : 0 < 256 ^ k := Nat.pow_pos (by omega)
    simp only [be, cmpL]
    rw [Nat.mod_pow_succ, Nat.mod_pow_succ (x := y), cmp3_lex _ _ _ _ _ (Nat.mod_lt _ hp) (Nat.mod_lt _ hp), ih]

theorem cmpL_be8 (x y : Nat) (hx : x < 18446744073709551616) (hy : y < 18446744073709551616) : cmpL (be 8 x) (be 8 y) = cmp3 x y := by
  rw [cmpL_be, Nat.mod_eq_of_lt (by simpa using hx), Nat.mod_eq_of_lt (by simpa using hy)]

theorem cmp3_zero_iff (x y : Nat) : cmp3 x y = 0 ↔ x = y := by
  unfold cmp3
  split
  · constructor <;> intro h
    · simp at h
    · omega
  · split
    · constructor <;> intro h
      · simp at h
      · omega
    · constructor
      · intro _; omega
      · intro _; rfl

theorem be8_inj {x y : Nat} (hx : x < 18446744073709551616) (hy : y < 18446744073709551616) : be 8 x = be 8 y ↔ x = y := by
  rw [← cmpL_zero _ _ (by rw [be_len, be_len]), cmpL_be8 x y hx hy, cmp3_zero_iff]

theorem be4_inj {x y : Nat} (hx : x < 4294967296) (hy : y < 4294967296) : be 4 x = be 4 y ↔ x = y := by
  rw [← cmpL_zero _ _ (by rw [be_len, be_len]), cmpL_be, Nat.mod_eq_of_lt (by simpa using hx), Nat.mod_eq_of_lt (by simpa using hy), cmp3_zero_iff]

/-- An int64 as a uint64. -/
def u64 (z : Int) : Nat := (z % 18446744073709551616).toNat

theorem u64_cast (z : Int) : (u64 z : Int) = z % 18446744073709551616 := by unfold u64; omega
theorem u64_wrap (z : Int) : IntKind.u64.wrap z = (u64 z : Int) := by rw [u64_cast]; simp [IntKind.wrap, IntKind.signed, IntKind.bits]
theorem u64_lt (z : Int) : u64 z < 18446744073709551616 := by unfold u64; omega

def I64 (z : Int) : Prop := -9223372036854775808 ≤ z ∧ z ≤ 9223372036854775807

theorem u64_inj {x y : Int} (hx : I64 x) (hy : I64 y) : u64 x = u64 y ↔ x = y := by
  unfold I64 at *
  constructor
  · intro h
    have : (u64 x : Int) = u64 y := by rw [h]
    rw [u64_cast, u64_cast] at this
    omega
  · intro h; rw [h]

/-- The fields of a glob item. -/
structure Glob where
  key : Int
  base : Int
  wait : Bool
  entry : Int
  id : Nat → Nat
  typ : Nat
  size : Int
  offset : Int
  crc : Nat
  data : Int
  dsize : Int
  packed : Int
  delta : Int
  sum : Nat
  code : Nat
  held : Bool
  inl : Bool
  eat : Int
  fin : Int
  ecrc : Nat
  frm : Int
  bid : Nat → Nat

/-- What the kinds say. -/
structure Glob.Ok (G : Glob) : Prop where
  key : I64 G.key
  base : I64 G.base
  entry : I64 G.entry
  id : ∀ j, G.id j < 256
  typ : G.typ < 256
  size : I64 G.size
  offset : I64 G.offset
  crc : G.crc < 4294967296
  data : I64 G.data
  dsize : I64 G.dsize
  delta : I64 G.delta
  sum : G.sum < 4294967296
  code : G.code < 256
  fin : I64 G.fin
  frm : I64 G.frm
  bid : ∀ j, G.bid j < 256

def globL (G : Glob) : List Value :=
  [.int .i64 G.key, .int .i64 G.base, .bool G.wait, .int .i64 G.entry] ++ (idL G.id ++
    ([.int .u8 (G.typ : Nat), .int .i64 G.size, .int .i64 G.offset, .int .u32 (G.crc : Nat), .int .i64 G.data, .int .i64 G.dsize, .int .i64 G.packed, .int .i64 G.delta, .int .u32 (G.sum : Nat), .int .u8 (G.code : Nat), .bool G.held, .bool G.inl, .int .i64 G.eat, .int .i64 G.fin, .int .u32 (G.ecrc : Nat), .int .i64 G.frm] ++ idL G.bid))

theorem globL_len (G : Glob) : (globL G).length = 60 := by simp [globL, idL_len]

/-- A bool as a byte. -/
def b2n (b : Bool) : Nat := if b then 1 else 0
/-- The code's byte. -/
def codeB (G : Glob) : Nat := ((G.code ||| (if G.held then 128 else 0)) ||| (if G.inl then 64 else 0)) % 256

theorem codeB_lt (G : Glob) : codeB G < 256 := Nat.mod_lt _ (by omega)

def idB (f : Nat → Nat) : List Nat := (List.range 20).map f
theorem idB_len (f : Nat → Nat) : (idB f).length = 20 := by simp [idB]
theorem idB_inj {f g : Nat → Nat} : idB f = idB g ↔ idL f = idL g := by
  constructor
  · intro h
    refine List.ext_getElem? fun i => ?_
    by_cases hi : i < 20
    · have : (idB f)[i]? = (idB g)[i]? := by rw [h]
      simp [idB, hi] at this
      rw [idL_get _ _ hi, idL_get _ _ hi, this]
    · rw [List.getElem?_eq_none (by rw [idL_len]; omega), List.getElem?_eq_none (by rw [idL_len]; omega)]
  · intro h
    refine List.ext_getElem? fun i => ?_
    by_cases hi : i < 20
    · have : (idL f)[i]? = (idL g)[i]? := by rw [h]
      rw [idL_get _ _ hi, idL_get _ _ hi] at this
      simp at this
      have e : f i = g i := by omega
      simp [idB, hi, e]
    · rw [List.getElem?_eq_none (by rw [idB_len]; omega), List.getElem?_eq_none (by rw [idB_len]; omega)]

/-- The entry's part of the row. -/
def entB (G : Glob) : List Nat :=
  idB G.id ++ ([G.typ] ++ (be 8 (u64 G.size) ++ (be 8 (u64 G.offset) ++ (be 4 G.crc ++ (be 8 (u64 G.data) ++ (be 8 (u64 G.dsize) ++ (be 8 (u64 G.fin) ++ (be 8 (u64 G.delta) ++ (be 4 G.sum ++ ([codeB G] ++ be 8 (u64 G.frm)))))))))))
/-- The row. -/
def rowB (G : Glob) : List Nat := be 8 (u64 G.key) ++ (be 8 (u64 G.base) ++ ([b2n G.wait] ++ (be 8 (u64 G.entry) ++ (entB G ++ idB G.bid))))

theorem entB_len (G : Glob) : (entB G).length = 86 := by simp [entB, be_len, idB_len]
theorem rowB_len (G : Glob) : (rowB G).length = 131 := by simp [rowB, be_len, idB_len, entB_len]

/-- cmpBool's answer. -/
def cmpB (a b : Bool) : Int := if a == b then 0 else if b then -1 else 1

theorem cmpL_bool (a b : Bool) : cmpL [b2n a] [b2n b] = cmpB a b := by cases a <;> cases b <;> rfl

/-- The order by the leading fields. -/
def lead (G K : Glob) : Int :=
  let a := cmp3 (u64 G.key) (u64 K.key)
  let b := if a = 0 then cmp3 (u64 G.base) (u64 K.base) else a
  let c := if b = 0 then cmpB G.wait K.wait else b
  if c = 0 then cmp3 (u64 G.entry) (u64 K.entry) else c

theorem cmpL_row (G K : Glob) : cmpL (rowB G) (rowB K) = if lead G K = 0 then cmpL (entB G ++ idB G.bid) (entB K ++ idB K.bid) else lead G K := by
  unfold rowB lead
  rw [cmpL_append _ _ _ _ (by simp [be_len]), cmpL_append _ _ _ _ (by simp [be_len]), cmpL_append _ _ _ _ (by simp), cmpL_append _ _ _ _ (by simp [be_len]),
    cmpL_be8 _ _ (u64_lt _) (u64_lt _), cmpL_be8 _ _ (u64_lt _) (u64_lt _), cmpL_be8 _ _ (u64_lt _) (u64_lt _), cmpL_bool]
  generalize cmp3 (u64 G.key) (u64 K.key) = a
  generalize cmp3 (u64 G.base) (u64 K.base) = b
  generalize cmpB G.wait K.wait = c
  generalize cmp3 (u64 G.entry) (u64 K.entry) = d
  simp only
  by_cases ha : a = 0 <;> by_cases hb : b = 0 <;> by_cases hc : c = 0 <;> by_cases hd : d = 0 <;> simp [ha, hb, hc, hd]

/-- The two agree on every field that is written. -/
def same (G K : Glob) : Prop :=
  G.key = K.key ∧ G.base = K.base ∧ G.wait = K.wait ∧ G.entry = K.entry ∧ idL G.id = idL K.id ∧ G.typ = K.typ ∧ G.size = K.size ∧ G.offset = K.offset ∧ G.crc = K.crc ∧ G.data = K.data ∧ G.dsize = K.dsize ∧ G.fin = K.fin ∧ G.delta = K.delta ∧ G.sum = K.sum ∧ codeB G = codeB K ∧ G.frm = K.frm ∧ idL G.bid = idL K.bid

theorem app_inj {a b c d : List Nat} (h : a.length = c.length) : a ++ b = c ++ d ↔ a = c ∧ b = d :=
  ⟨fun e => List.append_inj e h, fun e => by rw [e.1, e.2]⟩

theorem b2n_inj {a b : Bool} : b2n a = b2n b ↔ a = b := by cases a <;> cases b <;> simp [b2n]

theorem row_same {G K : Glob} (hG : G.Ok) (hK : K.Ok) : rowB G = rowB K ↔ same G K := by
  unfold rowB entB same
  simp only [List.append_assoc]
  rw [app_inj (by simp [be_len]), app_inj (by simp [be_len]), app_inj (by simp), app_inj (by simp [be_len]), app_inj (by simp [idB_len]), app_inj (by simp), app_inj (by simp [be_len]), app_inj (by simp [be_len]), app_inj (by simp [be_len]), app_inj (by simp [be_len]), app_inj (by simp [be_len]), app_inj (by simp [be_len]), app_inj (by simp [be_len]), app_inj (by simp [be_len]), app_inj (by simp), app_inj (by simp [be_len])]
  rw [be8_inj (u64_lt _) (u64_lt _), be8_inj (u64_lt _) (u64_lt _), be8_inj (u64_lt _) (u64_lt _), be8_inj (u64_lt _) (u64_lt _), be8_inj (u64_lt _) (u64_lt _), be8_inj (u64_lt _) (u64_lt _), be8_inj (u64_lt _) (u64_lt _), be8_inj (u64_lt _) (u64_lt _), be8_inj (u64_lt _) (u64_lt _), be8_inj (u64_lt _) (u64_lt _), be4_inj hG.crc hK.crc, be4_inj hG.sum hK.sum,
    u64_inj hG.key hK.key, u64_inj hG.base hK.base, u64_inj hG.entry hK.entry, u64_inj hG.size hK.size, u64_inj hG.offset hK.offset, u64_inj hG.data hK.data, u64_inj hG.dsize hK.dsize, u64_inj hG.fin hK.fin, u64_inj hG.delta hK.delta, u64_inj hG.frm hK.frm, idB_inj, idB_inj]
  simp only [List.cons.injEq, and_true, b2n_inj]

theorem cmpL_same {G K : Glob} (hG : G.Ok) (hK : K.Ok) : cmpL (rowB G) (rowB K) = 0 ↔ same G K := by
  rw [cmpL_zero _ _ (by rw [rowB_len, rowB_len]), row_same hG hK]

/-! ### The row in memory -/
def bytesV (l : List Nat) : List Value := l.map fun x => .int .u8 (x : Nat)
theorem bytesV_len (l : List Nat) : (bytesV l).length = l.length := by simp [bytesV]
theorem bytesV_get (l : List Nat) (j x : Nat) (h : l[j]? = some x) : (bytesV l)[j]? = some (.int .u8 (x : Nat)) := by simp [bytesV, h]

/-- Block b holds n bytes: first L, then k of which nothing is said, then t's. All may be written. -/
structure Part (w : World) (b n : Nat) (L : List Nat) (k : Nat) (t : Nat → Nat) : Prop where
  fit : L.length + k ≤ n
  head : ∀ j x, L[j]? = some x → w.cell? ⟨b, j, none⟩ = some (.int .u8 (x : Nat))
  tail : ∀ j, L.length + k ≤ j → j < n → w.cell? ⟨b, j, none⟩ = some (.int .u8 (t j : Nat))
  there : w.there b 0 n

theorem Part.opens {w : World} {b n k : Nat} {L : List Nat} {t : Nat → Nat} (h : Part w b n L 0 t) (hk : L.length + k ≤ n) : Part w b n L k t :=
  ⟨hk, h.head, fun j h1 h2 => h.tail j (by omega) h2, h.there⟩

theorem Part.closes {w : World} {b n : Nat} {L vs : List Nat} {t : Nat → Nat} (h : Part w b n (L ++ vs) 0 t) : Part w b n L vs.length t :=
  ⟨by have := h.fit; simp at this; omega, fun j x hj => h.head j x (by rw [List.getElem?_append_left (List.getElem?_eq_some_iff.1 hj).1]; exact hj), fun j h1 h2 => h.tail j (by simp; omega) h2, h.there⟩

theorem Part.put {w : World} {b n : Nat} {L vs : List Nat} {t : Nat → Nat} (h : Part w b n L vs.length t) : Part (w.setCells b L.length (bytesV vs)) b n (L ++ vs) 0 t := by
  have ht : w.there b L.length (bytesV vs).length := there_mid h.there (by rw [bytesV_len]; exact h.fit)
  have hin := World.rangeAt_setCells_same w b L.length (bytesV vs) ht
  refine ⟨by have := h.fit; simp; omega, fun j x hj => ?_, fun j h1 h2 => ?_, World.there_setCells h.there _ _ _⟩
  · by_cases hl : j < L.length
    · rw [List.getElem?_append_left hl] at hj
      have := World.rangeAt_setCells_apart (w := w) (b' := b) (o' := j) (cs := [.int .u8 (x : Nat)]) (fun i v hv => by
        match i with
        | 0 => simp at hv; rw [← hv]; exact h.head j x hj
        | i + 1 => simp at hv) b L.length (bytesV vs) (.inr (.inl (by simp; omega)))
      exact this 0 _ rfl
    · rw [List.getElem?_append_right (by omega)] at hj
      have := hin (j - L.length) _ (bytesV_get _ _ _ hj)
      rw [show L.length + (j - L.length) = j by omega] at this
      exact this
  · simp at h1
    have := World.rangeAt_setCells_apart (w := w) (b' := b) (o' := j) (cs := [.int .u8 (t j : Nat)]) (fun i v hv => by
      match i with
      | 0 => simp at hv; rw [← hv]; exact h.tail j (by omega) h2
      | i + 1 => simp at hv) b L.length (bytesV vs) (.inr (.inr (by rw [bytesV_len]; omega)))
    exact this 0 _ rfl

theorem Part.same {w w' : World} {b n k : Nat} {L : List Nat} {t : Nat → Nat} (h : Part w b n L k t) (e : w'.heap[b]? = w.heap[b]?) : Part w' b n L k t :=
  ⟨h.fit, fun j x hj => by rw [World.cell?_of_block (a := ⟨b, j, none⟩) e]; exact h.head j x hj, fun j h1 h2 => by rw [World.cell?_of_block (a := ⟨b, j, none⟩) e]; exact h.tail j h1 h2, fun j hj => by
    rw [World.cell?_of_block (a := ⟨b, 0 + j, none⟩) e, World.frozen?_of_block (a := ⟨b, 0 + j, none⟩) e]; exact h.there j hj⟩

end Go.Proofs.Qxb6614450a.W
