import Derived.Test.Qxb6614450aGlobId
namespace Go.Proofs.Qxb6614450a.W
open Go.RowKit
set_option linter.unusedSimpArgs false

theorem Part.reopen {w : World} {b n : Nat} {L vs : List Nat} {t : Nat → Nat} (h : Part w b n (L ++ vs) 0 t) : Part w b n L 0 (fun j => if j < L.length + vs.length then vs.getD (j - L.length) 0 else t j) := by
  refine ⟨by have := h.fit; simp at this; omega, fun j x hj => h.head j x (by rw [List.getElem?_append_left (List.getElem?_eq_some_iff.1 hj).1]; exact hj), fun j h1 h2 => ?_, h.there⟩
  by_cases hj : j < L.length + vs.length
  · simp only [hj, if_true]
    have hv : j - L.length < vs.length := by omega
    have := h.head j (vs[j - L.length]) (by rw [List.getElem?_append_right (by omega), List.getElem?_eq_getElem hv])
    rw [this, List.getD, List.getElem?_eq_getElem hv]
    rfl
  · simp only [hj, if_false]
    exact h.tail j (by simp; omega) h2

theorem Part.congr {w : World} {b n k : Nat} {L : List Nat} {t t' : Nat → Nat} (h : Part w b n L k t) (e : ∀ j, L.length + k ≤ j → t' j = t j) : Part w b n L k t' :=
  ⟨h.fit, h.head, fun j h1 h2 => by rw [e j h1]; exact h.tail j h1 h2, h.there⟩

theorem Puts.reopen {W w : World} {sb rb n o : Nat} {L vs : List Nat} {t : Nat → Nat} (h : Puts W w sb rb n (L ++ vs) 0 t o) : Puts W w sb rb n L 0 (fun j => if j < L.length + vs.length then vs.getD (j - L.length) 0 else t j) o :=
  ⟨h.gr, h.new, h.old, h.box, h.free, h.pt.reopen⟩
theorem Puts.congr {W w : World} {sb rb n o k : Nat} {L : List Nat} {t t' : Nat → Nat} (h : Puts W w sb rb n L k t o) (e : ∀ j, L.length + k ≤ j → t' j = t j) : Puts W w sb rb n L k t' o :=
  ⟨h.gr, h.new, h.old, h.box, h.free, h.pt.congr e⟩

theorem Puts.start {w : World} {rb n : Nat} {t : Nat → Nat} (h : Part w rb n [] 0 t) (hr : rb < w.heap.size) :
    Puts w (w.alloc (.cells #[.slice (some ⟨rb, 0, none⟩) n n] 77)) w.heap.size rb n [] 0 t 0 := by
  have e : ∀ i, i < w.heap.size → (w.alloc (.cells #[.slice (some ⟨rb, 0, none⟩) n n] 77)).heap[i]? = w.heap[i]? := fun i hi => Below.heap_alloc w _ i hi
  refine ⟨⟨rfl, rfl, rfl, by simp, fun i hi _ => e i hi⟩, ⟨Nat.le_refl _, by simp⟩, hr, ?_, ?_, h.same (e rb hr)⟩
  · rw [Nat.sub_zero]
    exact World.cell?_alloc_new w _ _ 0
  · exact World.frozen?_alloc_at _ _ _ _ rfl

set_option maxHeartbeats 8000000 in
set_option maxRecDepth 100000 in
theorem globPut_calls {w : World} {rb n : Nat} {t : Nat → Nat} (gb : Nat) (G : Glob) (hG : G.Ok) (hgl : w.rangeAt gb 0 (globL G)) (hne : gb ≠ rb) (hr : rb < w.heap.size) (hp : Part w rb n [] 0 t) (hn : 131 ≤ n) :
    Calls Try.prog 33 #[.pointer (some ⟨gb, 0, none⟩), .slice (some ⟨rb, 0, none⟩) n n] w fun e w' => e = .returned (.tuple #[]) ∧ w.grownBy w' (some rb) ∧ Part w' rb n (rowB G) 0 t := by
  have P0 : Hid (Puts w (w.alloc (.cells #[.slice (some ⟨rb, 0, none⟩) n n] 77)) w.heap.size rb n [] 0 t 0) := Puts.start hp hr
  have c0 : (w.alloc (.cells #[.slice (some ⟨rb, 0, none⟩) n n] 77)).cell? ⟨gb, 0, none⟩ = some (.int .i64 G.key) := cell_grown (glob_cell hgl 0 _ rfl) hne P0.out.gr
  have C1 : Hid (∀ w', w.grownBy w' (some rb) → w'.cell? ⟨gb, 1, none⟩ = some (.int .i64 G.base)) := fun w' g => cell_grown (glob_cell hgl 1 _ rfl) hne g
  have C2 : Hid (∀ w', w.grownBy w' (some rb) → w'.cell? ⟨gb, 2, none⟩ = some (.bool G.wait)) := fun w' g => cell_grown (glob_cell hgl 2 _ rfl) hne g
  have C3 : Hid (∀ w', w.grownBy w' (some rb) → w'.cell? ⟨gb, 3, none⟩ = some (.int .i64 G.entry)) := fun w' g => cell_grown (glob_cell hgl 3 _ rfl) hne g
  have HR : Hid (∀ w', w.grownBy w' (some rb) → w'.rangeAt gb 40 (idL G.bid)) := fun w' g => range_grown (fun j v hv => by
    have hj := (List.getElem?_eq_some_iff.1 hv).1
    rw [idL_len] at hj
    refine glob_cell hgl (40 + j) v ?_
    show (([_, _, _, _] : List Value) ++ (idL G.id ++ (([_, _, _, _, _, _, _, _, _, _, _, _, _, _, _, _] : List Value) ++ idL G.bid)))[40 + j]? = _
    rw [List.getElem?_append_right (by simp; omega), List.getElem?_append_right (by rw [idL_len]; simp; omega), List.getElem?_append_right (by rw [idL_len]; simp; omega)]
    simp only [idL_len, List.length_cons, List.length_nil]
    rw [show 40 + j - (0 + 1 + 1 + 1 + 1) - 20 - (0 + 1 + 1 + 1 + 1 + 1 + 1 + 1 + 1 + 1 + 1 + 1 + 1 + 1 + 1 + 1 + 1) = j by omega]
    exact hv) hne g
  have CE : Hid (∀ (W' : World) (L : List Nat) (sb : Nat) (t' : Nat → Nat), L.length = 25 → (∀ j, 111 ≤ j → t' j = t j) → Puts w W' sb rb n L 0 t' 25 → Calls Try.prog 39 #[.pointer (some ⟨gb, 4, none⟩), .slice (some ⟨rb, 25, none⟩) 86 (n - 25)] W' fun e w' => e = .returned (.tuple #[]) ∧ Puts w w' sb rb n (L ++ entB G) 0 t 25) := fun W' L sb t' hL ht hP =>
    (entPut_calls gb G hG hgl hne hP hL hn).mono fun e w' h => ⟨h.1, h.2.congr fun j hj => (ht j (by simp [entB_len] at hj; omega)).symm⟩
  clear hgl hp hG
  have hn' : Hid (131 ≤ n) := hn
  clear hn
  go_enter Try.func33, Try.ntmps33
  go_wp2_with fail
  generalize w.alloc (.cells #[.slice (some ⟨rb, 0, none⟩) n n] 77) = w0 at *
  obtain ⟨sb, hsb⟩ : ∃ sb, sb = w.heap.size := ⟨_, rfl⟩
  rw [← hsb] at P0
  rw [← hsb]
  clear hsb
  clear c0
  refine (putInt_calls (L := []) G.key P0.out (by have := hn'.out; simp; omega)).mono ?_
  rintro e w1 ⟨rfl, h1⟩
  obtain ⟨L1, hL1⟩ : ∃ l, l = [] ++ be 8 (u64 G.key) := ⟨_, rfl⟩
  rw [← hL1] at h1
  have P1 : Hid (Puts w w1 sb rb n L1 0 t L1.length) := h1
  have n1 : Hid (L1.length = 8) := by show _ = _; rw [hL1]; simp [be_len]
  have H1 : Hid (L1 = be 8 (u64 G.key)) := hL1
  have c1 := C1.out _ P1.out.gr
  clear hL1 h1 P0 C1
  go_wp2_with fail
  refine (putInt_calls G.base P1.out (by have := hn'.out; rw [n1.out]; omega)).mono ?_
  rintro e w2 ⟨rfl, h2⟩
  obtain ⟨L2, hL2⟩ : ∃ l, l = L1 ++ be 8 (u64 G.base) := ⟨_, rfl⟩
  rw [← hL2] at h2
  have P2 : Hid (Puts w w2 sb rb n L2 0 t L2.length) := h2
  have n2 : Hid (L2.length = 16) := by show _ = _; rw [hL2, List.length_append, be_len, n1.out]
  have H2 : Hid (L2 = L1 ++ be 8 (u64 G.base)) := hL2
  have c2 := C2.out _ P2.out.gr
  clear hL2 h2 P1 C2 c1 n1
  go_wp2_with (go_at_call 38; refine (boolByte_calls _ _).mono ?_; rintro e w' ⟨rfl, rfl⟩)
  refine (putByte_calls (b2n G.wait) P2.out (by have := hn'.out; rw [n2.out]; omega)).mono ?_
  rintro e w3 ⟨rfl, h3⟩
  obtain ⟨L3, hL3⟩ : ∃ l, l = L2 ++ [b2n G.wait] := ⟨_, rfl⟩
  rw [← hL3] at h3
  have P3 : Hid (Puts w w3 sb rb n L3 0 t L3.length) := h3
  have n3 : Hid (L3.length = 17) := by show _ = _; rw [hL3, List.length_append, n2.out]; rfl
  have H3 : Hid (L3 = L2 ++ [b2n G.wait]) := hL3
  have c3 := C3.out _ P3.out.gr
  clear hL3 h3 P2 C3 c2 n2
  go_wp2_with fail
  refine (putInt_calls G.entry P3.out (by have := hn'.out; rw [n3.out]; omega)).mono ?_
  rintro e w4 ⟨rfl, h4⟩
  obtain ⟨L4, hL4⟩ : ∃ l, l = L3 ++ be 8 (u64 G.entry) := ⟨_, rfl⟩
  rw [← hL4] at h4
  have n4 : Hid (L4.length = 25) := by show _ = _; rw [hL4, List.length_append, be_len, n3.out]
  rw [n4.out] at h4
  have P4 : Hid (Puts w w4 sb rb n L4 0 t 25) := h4
  have H4 : Hid (L4 = L3 ++ be 8 (u64 G.entry)) := hL4
  clear hL4 h4 P3 c3 n3
  go_wp2_with fail
  obtain ⟨q, hq⟩ : ∃ q, q = n - 25 := ⟨_, rfl⟩
  have hq86 : (86 : Int) ≤ (q : Int) := by have := hn'.out; omega
  have hqn : ¬ q = 86 := by have := hn'.out; omega
  have CC : Hid (∀ W', (∃ t', (∀ j, 111 ≤ j → t' j = t j) ∧ Puts w W' sb rb n L4 0 t' 25) → Calls Try.prog 39 #[.pointer (some ⟨gb, 4, none⟩), .slice (some ⟨rb, 25, none⟩) 86 q] W' fun e w' => e = .returned (.tuple #[]) ∧ Puts w w' sb rb n (L4 ++ entB G) 0 t 25) := fun W' ⟨t', h1, h2⟩ => by rw [hq]; exact CE.out W' L4 sb t' n4.out h1 h2
  have HS : Hid (∃ t', (∀ j, 111 ≤ j → t' j = t j) ∧ Puts w w4.drew sb rb n L4 0 t' 25) := ⟨t, fun _ _ => rfl, P4.out.drew⟩
  have CL : Hid (∀ w', Puts w w' sb rb n (L4 ++ entB G) 0 t 25 → ∃ t', (∀ j, 111 ≤ j → t' j = t j) ∧ Puts w w' sb rb n L4 0 t' 25) := fun w' h => ⟨_, fun j hj => by rw [if_neg (by rw [n4.out, entB_len]; omega)], h.reopen⟩
  have BX : Hid (∀ w', (∃ t', (∀ j, 111 ≤ j → t' j = t j) ∧ Puts w w' sb rb n L4 0 t' 25) → w'.cell? ⟨sb, 0, none⟩ = some (.slice (some ⟨rb, 25, none⟩) q q)) := fun w' ⟨t', _, h⟩ => by rw [hq]; exact h.box
  have hq' : Hid (q = n - 25) := hq
  clear hq CE P4
  refine wp_region_held_drew (S := fun w' => ∃ t', (∀ j, 111 ≤ j → t' j = t j) ∧ Puts w w' sb rb n L4 0 t' 25) (by kernel_rfl) HS.out (fun hHeld => ?_)
  refine wpAnyH_take (i := 0) (v := .pointer (some ⟨gb, 0, none⟩)) rfl (by kernel_rfl) (by kernel_rfl) (by kernel_rfl) (fun _ _ _ h => h) (Or.inl ⟨by kernel_rfl, fun w hSw => by go_simp⟩) (by assumption) ?_
  change wpAnyH _ _ _ _ _ _ _ (Act.put _ (some 27) _) _
  try simp only [Act.put, List.setIfInBounds_toArray, List.set_cons_zero, List.set_cons_succ]
  refine wpAnyH_take (i := 1) (v := .pointer (some ⟨gb, 0, none⟩)) rfl (by kernel_rfl) (by kernel_rfl) (by kernel_rfl) (fun _ _ _ h => h) (Or.inl ⟨by kernel_rfl, fun w hSw => by go_simp⟩) (by assumption) ?_
  change wpAnyH _ _ _ _ _ _ _ (Act.put _ (some 28) _) _
  try simp only [Act.put, List.setIfInBounds_toArray, List.set_cons_zero, List.set_cons_succ]
  refine wpAnyH_take (i := 2) (v := .pointer (some ⟨gb, 4, none⟩)) rfl (by kernel_rfl) (by kernel_rfl) (by kernel_rfl) (fun _ _ _ h => h) (Or.inl ⟨by kernel_rfl, fun w hSw => by go_simp⟩) (by assumption) ?_
  change wpAnyH _ _ _ _ _ _ _ (Act.put _ (some 29) _) _
  try simp only [Act.put, List.setIfInBounds_toArray, List.set_cons_zero, List.set_cons_succ]
  refine wpAnyH_take (i := 3) (v := .slice (some ⟨rb, 25, none⟩) q q) rfl (by kernel_rfl) (by kernel_rfl) (by kernel_rfl) (fun _ _ _ h => h) (Or.inl ⟨by kernel_rfl, fun w hSw => by have := BX.out _ hSw; clear hSw hHeld; go_simp⟩) (by assumption) ?_
  change wpAnyH _ _ _ _ _ _ _ (Act.put _ (some 30) _) _
  try simp only [Act.put, List.setIfInBounds_toArray, List.set_cons_zero, List.set_cons_succ]
  refine wpAnyH_take (i := 4) (v := .slice (some ⟨rb, 25, none⟩) 86 q) rfl (by kernel_rfl) (by kernel_rfl) (by kernel_rfl) (fun _ _ _ h => h) (Or.inl ⟨by kernel_rfl, fun w hSw => by go_simp⟩) (by assumption) ?_
  change wpAnyH _ _ _ _ _ _ _ (Act.put _ (some 31) _) _
  try simp only [Act.put, List.setIfInBounds_toArray, List.set_cons_zero, List.set_cons_succ]
  refine wpAnyH_ready (rs := [5]) (by kernel_rfl) (by simp) ?_
  refine AllReadyH.cons (o := _) rfl (fun K hK => ?_) AllReadyH.nil
  rw [if_pos (by kernel_rfl)]
  go_simp
  refine (CC.out _ (by assumption)).mono ?_
  rintro e w5 ⟨rfl, hw5⟩
  refine hK.out _ _ (CL.out _ hw5) (fun hHeldw5 => ?_)
  clear hK K
  try simp only [Act.put, List.setIfInBounds_toArray, List.set_cons_zero, List.set_cons_succ]
  refine wpAnyH_done (by kernel_rfl) ?_ _
  obtain ⟨L5, hL5⟩ : ∃ l, l = L4 ++ entB G := ⟨_, rfl⟩
  rw [← hL5] at hw5
  have P5 : Hid (Puts w w5 sb rb n L5 0 t 25) := hw5
  have n5 : Hid (L5.length = 111) := by show _ = _; rw [hL5, List.length_append, entB_len, n4.out]
  have H5 : Hid (L5 = L4 ++ entB G) := hL5
  have bx := hw5.box
  have bf := hw5.free
  rw [← hq'.out] at bx
  have P6 : Hid (Puts w (w5.setCell ⟨sb, 0, none⟩ (.slice (some ⟨rb, 111, none⟩) (q - 86) (q - 86))) sb rb n L5 0 t L5.length) := by
    have := hw5.move (o' := 111)
    rw [show n - 111 = q - 86 by rw [hq'.out]; omega] at this
    rw [n5.out]
    exact this
  have R6 : Hid ((w5.setCell ⟨sb, 0, none⟩ (.slice (some ⟨rb, 111, none⟩) (q - 86) (q - 86))).rangeAt gb 40 (idL G.bid)) := HR.out _ P6.out.gr
  clear hL5 hw5 CC CL HS BX hHeld hHeldw5 n4 P5 HR
  go_wp2_with (refine wpList_load_mid rfl 30 (.tmp 37) ?_ gb 40 ?_ (idL G.bid) _ ?_ Try.underlying30 rfl (szL30 G.bid) ?_; (· rfl); (· kernel_rfl); (· exact R6.out))
  refine (putID_calls G.bid P6.out (by have := hn'.out; rw [n5.out]; omega)).mono ?_
  rintro e w7 ⟨rfl, h7⟩
  have e : L5 ++ idB G.bid = rowB G := by
    rw [H5.out, H4.out, H3.out, H2.out, H1.out]
    simp only [rowB, List.append_assoc]
  rw [e] at h7
  have F7 : Hid (w.grownBy w7 (some rb) ∧ Part w7 rb n (rowB G) 0 t) := h7
  clear h7
  go_wp2_with fail
  go_end0
  exact ⟨rfl, F7.out⟩

set_option maxHeartbeats 2000000 in
set_option maxRecDepth 100000 in
theorem ZZglobPut_calls {w : World} {rb n : Nat} {t : Nat → Nat} (gb : Nat) (G : Glob) (hG : G.Ok) (hgl : w.rangeAt gb 0 (globL G)) (hne : gb ≠ rb) (hr : rb < w.heap.size) (hp : Part w rb n [] 0 t) (hn : 131 ≤ n) :
    Calls Try.prog 28 #[.pointer (some ⟨gb, 0, none⟩), .slice (some ⟨rb, 0, none⟩) n n] w fun e w' => e = .returned (.tuple #[]) ∧ w.grownBy w' (some rb) ∧ Part w' rb n (rowB G) 0 t := by
  have CC : Hid (Calls Try.prog 33 #[.pointer (some ⟨gb, 0, none⟩), .slice (some ⟨rb, 0, none⟩) n n] w fun e w' => e = .returned (.tuple #[]) ∧ w.grownBy w' (some rb) ∧ Part w' rb n (rowB G) 0 t) := globPut_calls gb G hG hgl hne hr hp hn
  clear hgl hp hG
  go_enter Try.func28, Try.ntmps28
  go_wp2_with fail
  refine CC.out.mono ?_
  rintro e w7 ⟨rfl, h7⟩
  have F7 : Hid (w.grownBy w7 (some rb) ∧ Part w7 rb n (rowB G) 0 t) := h7
  clear h7
  go_wp2_with fail
  go_end0
  exact ⟨rfl, F7.out⟩

end Go.Proofs.Qxb6614450a.W
