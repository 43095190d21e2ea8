import Derived.Test.Qxb6614440aRows
import Derived.WalkKit
import Derived.WalkLawsBesides
namespace Go.Proofs.Qxb6614440a.Walks
open Go.RowKit

/-- 'pathOrRoot': the path, or the root where it is empty. -/
def rootOr (p : ByteArray) : ByteArray := if p.toList.isEmpty then ⟨#[47]⟩ else p

theorem rootOr_size (p : ByteArray) : (rootOr p).size ≤ p.size + 1 := by
  unfold rootOr
  split
  · show 1 ≤ _
    omega
  · omega

set_option maxHeartbeats 400000 in
theorem pathOrRoot_calls (p : ByteArray) (w : World) :
    Calls Try.prog 20 #[.string p] w fun e w' => e = .returned (.string (rootOr p)) ∧ w' = w := by
  cases h : p.toList.isEmpty
  · go_enter Try.func20, Try.ntmps20
    go_wp2
    go_ret
    exact ⟨by simp [rootOr, h], rfl⟩
  · go_enter Try.func20, Try.ntmps20
    go_wp2
    go_ret
    exact ⟨by simp [rootOr, h], rfl⟩

/-- What 'urn' builds. -/
def urnB (o k p n : ByteArray) : ByteArray := ⟨#[117, 114, 110, 58, 105, 119, 115, 58, 105, 97, 109, 58]⟩ ++ o ++ ⟨#[58]⟩ ++ k ++ rootOr p ++ n

theorem urnB_size (o k p n : ByteArray) : (urnB o k p n).size ≤ 14 + o.size + k.size + p.size + n.size := by
  have := rootOr_size p
  simp only [urnB, ByteArray.size_append]
  show 12 + _ + 1 + _ + _ + _ ≤ _
  omega

set_option maxHeartbeats 400000 in
theorem urn_calls (o k p n : ByteArray) (w : World) (ho : o.size ≤ 1048576) (hk : k.size ≤ 1048576) (hp : p.size ≤ 1048576) (hn : n.size ≤ 1048576) :
    Calls Try.prog 18 #[.string o, .string k, .string p, .string n] w fun e w' => e = .returned (.string (urnB o k p n)) ∧ w' = w := by
  have hr := rootOr_size p
  go_enter Try.func18, Try.ntmps18
  go_wp2_with (go_at_call 20; refine (pathOrRoot_calls _ _).mono ?_; rintro e w' ⟨rfl, rfl⟩)
  go_ret
  exact ⟨rfl, rfl⟩

def userB (p n : ByteArray) : ByteArray := urnB ⟨#[]⟩ ⟨#[117, 115, 101, 114]⟩ p n
def groupB (o p n : ByteArray) : ByteArray := urnB o ⟨#[103, 114, 111, 117, 112]⟩ p n

theorem userB_size (p n : ByteArray) : (userB p n).size ≤ 18 + p.size + n.size := by
  have := urnB_size ⟨#[]⟩ ⟨#[117, 115, 101, 114]⟩ p n
  have h1 : (⟨#[]⟩ : ByteArray).size = 0 := rfl
  have h2 : (⟨#[117, 115, 101, 114]⟩ : ByteArray).size = 4 := rfl
  unfold userB
  omega

theorem groupB_size (o p n : ByteArray) : (groupB o p n).size ≤ 19 + o.size + p.size + n.size := by
  have := urnB_size o ⟨#[103, 114, 111, 117, 112]⟩ p n
  have h2 : (⟨#[103, 114, 111, 117, 112]⟩ : ByteArray).size = 5 := rfl
  unfold groupB
  omega

set_option maxHeartbeats 400000 in
theorem userURN_calls (p n : ByteArray) (w : World) (hp : p.size ≤ 1048576) (hn : n.size ≤ 1048576) :
    Calls Try.prog 9 #[.string p, .string n] w fun e w' => e = .returned (.string (userB p n)) ∧ w' = w := by
  go_enter Try.func9, Try.ntmps9
  go_wp2_with (go_at_call 18; refine (urn_calls _ _ _ _ _ ?_ ?_ hp hn).mono ?_; (exact of_decide_eq_true rfl); (exact of_decide_eq_true rfl); rintro e w' ⟨rfl, rfl⟩)
  go_ret
  exact ⟨rfl, rfl⟩

set_option maxHeartbeats 400000 in
theorem groupURN_calls (o p n : ByteArray) (w : World) (ho : o.size ≤ 1048576) (hp : p.size ≤ 1048576) (hn : n.size ≤ 1048576) :
    Calls Try.prog 13 #[.string o, .string p, .string n] w fun e w' => e = .returned (.string (groupB o p n)) ∧ w' = w := by
  go_enter Try.func13, Try.ntmps13
  go_wp2_with (go_at_call 18; refine (urn_calls _ _ _ _ _ ho ?_ hp hn).mono ?_; (exact of_decide_eq_true rfl); rintro e w' ⟨rfl, rfl⟩)
  go_ret
  exact ⟨rfl, rfl⟩

set_option maxHeartbeats 400000 in
theorem usersUnder_calls (o p : ByteArray) (w : World) (hp : p.size ≤ 1048576) :
    Calls Try.prog 17 #[.string o, .string p] w fun e w' => e = .returned (.string (userB p ⟨#[]⟩)) ∧ w' = w := by
  go_enter Try.func17, Try.ntmps17
  go_wp2_with (go_at_call 9; refine (userURN_calls _ _ _ hp ?_).mono ?_; (exact of_decide_eq_true rfl); rintro e w' ⟨rfl, rfl⟩)
  go_ret
  exact ⟨rfl, rfl⟩

set_option maxHeartbeats 400000 in
theorem zzUsersUnder_calls (o p : ByteArray) (w : World) (hp : p.size ≤ 1048576) :
    Calls Try.prog 8 #[.string o, .string p] w fun e w' => e = .returned (.string (userB p ⟨#[]⟩)) ∧ w' = w := by
  go_enter Try.func8, Try.ntmps8
  go_wp2_with (go_at_call 17; refine (usersUnder_calls _ _ _ hp).mono ?_; rintro e w' ⟨rfl, rfl⟩)
  go_ret
  exact ⟨rfl, rfl⟩

set_option maxHeartbeats 400000 in
theorem groupsUnder_calls (o p : ByteArray) (w : World) (ho : o.size ≤ 1048576) (hp : p.size ≤ 1048576) :
    Calls Try.prog 19 #[.string o, .string p] w fun e w' => e = .returned (.string (groupB o p ⟨#[]⟩)) ∧ w' = w := by
  go_enter Try.func19, Try.ntmps19
  go_wp2_with (go_at_call 13; refine (groupURN_calls _ _ _ _ ho hp ?_).mono ?_; (exact of_decide_eq_true rfl); rintro e w' ⟨rfl, rfl⟩)
  go_ret
  exact ⟨rfl, rfl⟩

set_option maxHeartbeats 400000 in
theorem zzGroupsUnder_calls (o p : ByteArray) (w : World) (ho : o.size ≤ 1048576) (hp : p.size ≤ 1048576) :
    Calls Try.prog 12 #[.string o, .string p] w fun e w' => e = .returned (.string (groupB o p ⟨#[]⟩)) ∧ w' = w := by
  go_enter Try.func12, Try.ntmps12
  go_wp2_with (go_at_call 19; refine (groupsUnder_calls _ _ _ ho hp).mono ?_; rintro e w' ⟨rfl, rfl⟩)
  go_ret
  exact ⟨rfl, rfl⟩

/-- The bound on total length, over five strings: where it answers yes, the lengths add up to at most 1<<20. -/
def Says (l : Nat) (w : World) (e : Ending) (w' : World) : Prop := (e = .returned (.bool true) ∧ l ≤ 1048576 ∨ e = .returned (.bool false)) ∧ w' = w

set_option maxHeartbeats 400000 in
theorem bytes7_calls (a b c d n : ByteArray) (w : World) (ha : a.size ≤ maxLen) (hb : b.size ≤ maxLen) (hc : c.size ≤ maxLen) (hd : d.size ≤ maxLen) (hn : n.size ≤ maxLen) :
    Calls Try.prog 7 #[.string a, .string b, .string c, .string d, .string n] w (Says (a.size + b.size + c.size + d.size + n.size) w) := by
  unfold maxLen at ha hb hc hd hn
  go_enter Try.func7, Try.ntmps7
  go_wp2
  all_goals go_ret
  all_goals first | exact ⟨.inr rfl, rfl⟩ | exact ⟨.inl ⟨rfl, by omega⟩, rfl⟩

set_option maxHeartbeats 400000 in
theorem bytes11_calls (a b c d n : ByteArray) (w : World) (ha : a.size ≤ maxLen) (hb : b.size ≤ maxLen) (hc : c.size ≤ maxLen) (hd : d.size ≤ maxLen) (hn : n.size ≤ maxLen) :
    Calls Try.prog 11 #[.string a, .string b, .string c, .string d, .string n] w (Says (a.size + b.size + c.size + d.size + n.size) w) := by
  unfold maxLen at ha hb hc hd hn
  go_enter Try.func11, Try.ntmps11
  go_wp2
  all_goals go_ret
  all_goals first | exact ⟨.inr rfl, rfl⟩ | exact ⟨.inl ⟨rfl, by omega⟩, rfl⟩

set_option maxHeartbeats 400000 in
theorem bytes10_calls (a b c d : ByteArray) (w : World) (ha : a.size ≤ maxLen) (hb : b.size ≤ maxLen) (hc : c.size ≤ maxLen) (hd : d.size ≤ maxLen) :
    Calls Try.prog 10 #[.string a, .string b, .string c, .string d] w (Says (a.size + b.size + c.size + d.size) w) := by
  unfold maxLen at ha hb hc hd
  go_enter Try.func10, Try.ntmps10
  go_wp2
  all_goals go_ret
  all_goals first | exact ⟨.inr rfl, rfl⟩ | exact ⟨.inl ⟨rfl, by omega⟩, rfl⟩

set_option maxHeartbeats 400000 in
theorem bytes16_calls (a b c d : ByteArray) (w : World) (ha : a.size ≤ maxLen) (hb : b.size ≤ maxLen) (hc : c.size ≤ maxLen) (hd : d.size ≤ maxLen) :
    Calls Try.prog 16 #[.string a, .string b, .string c, .string d] w (Says (a.size + b.size + c.size + d.size) w) := by
  unfold maxLen at ha hb hc hd
  go_enter Try.func16, Try.ntmps16
  go_wp2
  all_goals go_ret
  all_goals first | exact ⟨.inr rfl, rfl⟩ | exact ⟨.inl ⟨rfl, by omega⟩, rfl⟩

end Go.Proofs.Qxb6614440a.Walks
