import Derived.Test.Qxb6614440aWalks
namespace Go.Proofs.Qxb6614440a.Walks

theorem ba_ext {a b : ByteArray} (h : a.data.toList = b.data.toList) : a = b := by
  apply ByteArray.ext
  exact Array.toList_inj.1 h

theorem ba_app_data (a b : ByteArray) : (a ++ b).data.toList = a.data.toList ++ b.data.toList := by
  rw [ByteArray.data_append, Array.toList_append]

theorem ba_app_nil (a : ByteArray) : a ++ (⟨#[]⟩ : ByteArray) = a := by
  apply ba_ext
  rw [ba_app_data]
  show a.data.toList ++ [] = _
  rw [List.append_nil]

theorem ba_assoc (a b c : ByteArray) : a ++ b ++ c = a ++ (b ++ c) := by
  apply ba_ext
  simp only [ba_app_data, List.append_assoc]

theorem urnB_app (o k p n : ByteArray) : urnB o k p n = urnB o k p ⟨#[]⟩ ++ n := by
  unfold urnB
  rw [ba_app_nil]

theorem userB_app (p n : ByteArray) : userB p n = userB p ⟨#[]⟩ ++ n := urnB_app _ _ _ _
theorem groupB_app (o p n : ByteArray) : groupB o p n = groupB o p ⟨#[]⟩ ++ n := urnB_app _ _ _ _

theorem rootOr_of (p : ByteArray) (h : p.toList.isEmpty = false) : rootOr p = p := by simp [rootOr, h]

theorem userB_inj (p q : ByteArray) (hp : p.toList.isEmpty = false) (hq : q.toList.isEmpty = false) (h : userB p ⟨#[]⟩ = userB q ⟨#[]⟩) : p = q := by
  unfold userB urnB at h
  rw [rootOr_of p hp, rootOr_of q hq] at h
  have h2 := congrArg (fun x : ByteArray => x.data.toList) h
  simp only [ba_app_data, List.append_nil] at h2
  exact ba_ext (List.append_cancel_left h2)

theorem toList_ne {p q : ByteArray} (h : p ≠ q) : (p.toList == q.toList) = false := by
  rw [beq_eq_false_iff_ne]
  intro e
  rw [ByteArray.toList_eq, ByteArray.toList_eq] at e
  exact h (ba_ext e)

theorem userB_ne {p q : ByteArray} (hp : p.toList.isEmpty = false) (hq : q.toList.isEmpty = false) (h : (p.toList == q.toList) = false) :
    ((userB q ⟨#[]⟩).toList == (userB p ⟨#[]⟩).toList) = false := by
  apply toList_ne
  intro e
  have := userB_inj q p hq hp e
  subst this
  simp at h

theorem size_nil : (⟨#[]⟩ : ByteArray).size = 0 := rfl

/-- The path that extends p by q, the empty p standing for the root. -/
def fullOf (p q : ByteArray) : ByteArray := if p.toList.isEmpty then ⟨#[47]⟩ ++ q else p ++ q

theorem fullOf_ne (p q : ByteArray) : (fullOf p q).toList.isEmpty = false := by
  rw [ByteArray.toList_eq]
  unfold fullOf
  split
  · rw [ba_app_data]
    rfl
  · rename_i h
    rw [ba_app_data]
    rw [ByteArray.toList_eq] at h
    cases hp : p.data.toList
    · simp [hp] at h
    · simp

theorem rootOr_full (p q : ByteArray) : rootOr (fullOf p q) = rootOr p ++ q := by
  rw [rootOr_of _ (fullOf_ne p q)]
  unfold fullOf rootOr
  split <;> rfl

theorem urnB_full (o k p q n : ByteArray) : urnB o k (fullOf p q) n = urnB o k p ⟨#[]⟩ ++ q ++ n := by
  unfold urnB
  rw [rootOr_full, ba_app_nil]
  simp only [ba_assoc]

theorem userB_full (p q n : ByteArray) : userB (fullOf p q) n = userB p ⟨#[]⟩ ++ q ++ n := urnB_full _ _ _ _ _
theorem groupB_full (o p q n : ByteArray) : groupB o (fullOf p q) n = groupB o p ⟨#[]⟩ ++ q ++ n := urnB_full _ _ _ _ _

end Go.Proofs.Qxb6614440a.Walks
