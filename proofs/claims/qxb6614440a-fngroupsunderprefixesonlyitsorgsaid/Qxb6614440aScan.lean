import Derived.Test.Qxb6614440aPlain
import Derived.Deep.QuietTactic
import Derived.BigQuiet
import Derived.Deep.Light
namespace Go.Proofs.Qxb6614440a.Walks
open Go.RowKit

theorem ret_bool {a b : Bool} (h : a = b) : Ending.returned (.bool a) = .returned (.bool b) := by rw [h]

/-- 'zzHasColon': is there a colon among the bytes? -/
def hasColon (s : ByteArray) : Bool := s.data.toList.any (· == 58)

theorem ba_get (s : ByteArray) (k : Nat) (h : k < s.size) : s.data.toList[k]'(by simpa using h) = s[k] := rfl

theorem hasColon_yes (s : ByteArray) (k : Nat) (h : k < s.size) (e : ((s[k].toNat : Int) == 58) = true) : hasColon s = true := by
  unfold hasColon
  rw [List.any_eq_true]
  refine ⟨s[k], ?_, ?_⟩
  · rw [← ba_get s k h]
    exact List.getElem_mem _
  · have e2 := eq_of_beq e
    rw [beq_iff_eq]
    apply UInt8.toNat_inj.1
    show s[k].toNat = 58
    omega

theorem hasColon_no (s : ByteArray) (h : ∀ j (hj : j < s.size), ((s[j].toNat : Int) == 58) = false) : hasColon s = false := by
  unfold hasColon
  rw [List.any_eq_false]
  intro x hx
  obtain ⟨j, hj, rfl⟩ := List.getElem_of_mem hx
  have hj2 : j < s.size := by simpa using hj
  have := h j hj2
  rw [ba_get s j hj2, beq_iff_eq]
  intro e
  rw [e] at this
  simp at this

set_option maxHeartbeats 400000 in
theorem hasColon_calls (s : ByteArray) (w : World) (hs : s.size ≤ maxLen) :
    Calls Try.prog 14 #[.string s] w fun e w' => e = .returned (.bool (hasColon s)) ∧ w' = w := by
  unfold maxLen at hs
  go_enter Try.func14, Try.ntmps14
  go_wp2
  go_loop [3] (fun i => ∃ k : Nat, k ≤ s.size ∧ i = .int .i64 k ∧ Hid (∀ j (hj : j < s.size), j < k → ((s[j].toNat : Int) == 58) = false)) (fun i => s.size - (intOf i).toNat)
  case atStart => exact ⟨0, Nat.zero_le _, rfl, fun _ _ h => absurd h (Nat.not_lt_zero _)⟩
  case round =>
    obtain ⟨k, hk, rfl, hno⟩ := hrel
    by_cases hlt : k < s.size
    · cases hc : ((s[k].toNat : Int) == 58)
      · go_wp2
        go_round
        case rel =>
          refine ⟨k + 1, by omega, by go_num, fun j hj hjk => ?_⟩
          by_cases e : j = k
          · subst e; exact hc
          · exact hno.out j hj (by omega)
        case measure => simp [intOf]; omega
      · go_wp2
        go_ret
        exact ⟨ret_bool (hasColon_yes s k hlt hc).symm, rfl⟩
    · go_wp2
      go_ret
      exact ⟨ret_bool (hasColon_no s fun j hj => hno.out j hj (by omega)).symm, rfl⟩

/-- 'zzHasPrefix': does s begin with p? -/
def hasPre (s p : ByteArray) : Bool := p.data.toList.isPrefixOf s.data.toList

theorem hasPre_long (s p : ByteArray) (h : s.size < p.size) : hasPre s p = false := by
  unfold hasPre
  cases e : p.data.toList.isPrefixOf s.data.toList
  · rfl
  · have := (List.isPrefixOf_iff_prefix.1 e).length_le
    simp at this
    omega

theorem hasPre_part (s p : ByteArray) (k : Nat) (h : k < p.size) (hs : k < s.size) (e : ((s[k].toNat : Int) != p[k].toNat) = true) : hasPre s p = false := by
  unfold hasPre
  cases f : p.data.toList.isPrefixOf s.data.toList
  · rfl
  · have hp := List.isPrefixOf_iff_prefix.1 f
    have := hp.getElem (i := k) (by simpa using h)
    rw [ba_get p k h, ba_get s k hs] at this
    rw [this] at e
    simp at e

theorem hasPre_all (s p : ByteArray) (hl : p.size ≤ s.size) (h : ∀ j (hj : j < p.size) (hs : j < s.size), ((s[j].toNat : Int) != p[j].toNat) = false) : hasPre s p = true := by
  unfold hasPre
  rw [List.isPrefixOf_iff_prefix, List.prefix_iff_eq_take]
  apply List.ext_getElem
  · simp
    omega
  · intro j h1 h2
    have hj : j < p.size := by simpa using h1
    rw [List.getElem_take, ba_get p j hj, ba_get s j (by omega)]
    have := h j hj (by omega)
    rw [bne_eq_false_iff_eq] at this
    apply UInt8.toNat_inj.1
    omega

theorem drewN_more {w wr : World} (h : Hid (∃ n, wr = w.drewN n)) (m : Nat) : Hid (∃ n, wr.drewN m = w.drewN n) := by
  obtain ⟨n, rfl⟩ := h.out
  exact ⟨n + m, World.drewN_drewN _ _ _⟩

set_option maxHeartbeats 400000 in
theorem hasPre_calls (s p : ByteArray) (w : World) (hs : s.size ≤ 9223372036854775807) (_hp : p.size ≤ 9223372036854775807) :
    Calls Try.prog 15 #[.string s, .string p] w fun e w' => e = .returned (.bool (hasPre s p)) ∧ ∃ n, w' = w.drewN n := by
  by_cases hl : s.size < p.size
  · go_enter Try.func15, Try.ntmps15
    go_wp2
    go_ret
    exact ⟨ret_bool (hasPre_long s p hl).symm, 0, rfl⟩
  · go_enter Try.func15, Try.ntmps15
    go_wp2
    go_loopw [5] (fun i wr => ∃ k : Nat, k ≤ p.size ∧ i = .int .i64 k ∧ Hid (∀ j (hj : j < p.size) (hs : j < s.size), j < k → ((s[j].toNat : Int) != p[j].toNat) = false) ∧ Hid (∃ n, wr = w.drewN n)) (fun i _ => p.size - (intOf i).toNat)
    case atStart => exact ⟨0, Nat.zero_le _, rfl, fun _ _ _ h => absurd h (Nat.not_lt_zero _), 0, rfl⟩
    case round =>
      obtain ⟨k, hk, rfl, hno, hw⟩ := hrel
      by_cases hlt : k < p.size
      · have hks : k < s.size := by omega
        cases hc : ((s[k].toNat : Int) != p[k].toNat)
        · go_wp2
          go_quiet (fail)
          go_wp2
          go_roundw
          case rel =>
            go_light
            refine ⟨k + 1, by omega, by go_num, fun j hj hs hjk => ?_, drewN_more hw nq⟩
            by_cases e : j = k
            · subst e; exact hc
            · exact hno.out j hj hs (by omega)
          case measure => simp [intOf]; omega
        · go_wp2
          go_quiet (fail)
          go_wp2
          go_ret
          exact ⟨ret_bool (hasPre_part s p k hlt hks hc).symm, drewN_more hw nq⟩
      · go_wp2
        go_ret
        exact ⟨ret_bool (hasPre_all s p (by omega) fun j hj hs => hno.out j hj hs (by omega)).symm, hw.out⟩

theorem cut_colon : ∀ (a b x y : List UInt8), (58 : UInt8) ∉ a → (58 : UInt8) ∉ b → a ++ 58 :: x <+: b ++ 58 :: y → a = b
  | [], [], _, _, _, _, _ => rfl
  | [], c :: b, x, y, _, hb, h => by
    rw [List.nil_append, List.cons_append, List.cons_prefix_cons] at h
    exact absurd (h.1 ▸ List.mem_cons_self) hb
  | c :: a, [], x, y, ha, _, h => by
    rw [List.nil_append, List.cons_append, List.cons_prefix_cons] at h
    exact absurd (h.1 ▸ List.mem_cons_self) ha
  | c :: a, d :: b, x, y, ha, hb, h => by
    rw [List.cons_append, List.cons_append, List.cons_prefix_cons] at h
    rw [h.1, cut_colon a b x y (fun m => ha (List.mem_cons_of_mem _ m)) (fun m => hb (List.mem_cons_of_mem _ m)) h.2]

theorem hasColon_mem {a : ByteArray} (h : hasColon a = false) : (58 : UInt8) ∉ a.data.toList := by
  unfold hasColon at h
  rw [List.any_eq_false] at h
  intro m
  have := h 58 m
  simp at this

/-- No group of another colon-free org bears the prefix. -/
theorem group_apart (a b p q n : ByteArray) (ha : hasColon a = false) (hb : hasColon b = false) (h : (a.toList == b.toList) = false) :
    hasPre (groupB b q n) (groupB a p ⟨#[]⟩) = false := by
  cases e : hasPre (groupB b q n) (groupB a p ⟨#[]⟩)
  · rfl
  · exfalso
    unfold hasPre at e
    have e2 := List.isPrefixOf_iff_prefix.1 e
    simp only [groupB, urnB, ba_app_data, List.append_assoc] at e2
    rw [List.prefix_append_right_inj] at e2
    have := cut_colon a.data.toList b.data.toList _ _ (hasColon_mem ha) (hasColon_mem hb) e2
    rw [ByteArray.toList_eq, ByteArray.toList_eq, this] at h
    simp at h

end Go.Proofs.Qxb6614440a.Walks
