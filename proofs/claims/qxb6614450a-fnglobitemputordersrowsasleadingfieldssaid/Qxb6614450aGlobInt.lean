import Derived.Test.Qxb6614450aGlobPut
import Derived.Laws.BitsAllLaws
namespace Go.Proofs.Qxb6614450a.W
open Go.RowKit
set_option linter.unusedSimpArgs false

set_option maxHeartbeats 2000000 in
set_option maxRecDepth 100000 in
theorem putInt_calls {W w : World} {sb rb n : Nat} {L : List Nat} {t : Nat → Nat} (v : Int) (h : Puts W w sb rb n L 0 t L.length) (hn : L.length + 8 < n) :
    Calls Try.prog 36 #[.pointer (some ⟨sb, 0, none⟩), .int .i64 v] w fun e w' => e = .returned (.tuple #[]) ∧ Puts W w' sb rb n (L ++ be 8 (u64 v)) 0 t (L ++ be 8 (u64 v)).length := by
  have hu := u64_wrap v
  have CC : Hid (∀ W', Puts W W' sb rb n L 8 t L.length → Calls Try.prog 44 #[.agg #[], .slice (some ⟨rb, L.length, none⟩) (n - L.length) (n - L.length), .int .u64 (u64 v : Nat)] W' fun e w' => e = .returned (.tuple #[]) ∧ Puts W w' sb rb n (L ++ be 8 (u64 v)) 0 t L.length) := fun W' h' =>
    put64_puts _ _ _ (u64_lt v) h' (by omega)
  have HS : Hid (Puts W w.drew sb rb n L 8 t L.length) := (h.opens (by omega)).drew
  have CL : Hid (∀ w', Puts W w' sb rb n (L ++ be 8 (u64 v)) 0 t L.length → Puts W w' sb rb n L 8 t L.length) := fun w' h' => by have := h'.closes; rw [be_len] at this; exact this
  obtain ⟨bv, hbv⟩ : ∃ bv, bv = be 8 (u64 v) := ⟨_, rfl⟩
  have hbl : Hid (bv.length = 8) := by show _ = _; rw [hbv]; exact be_len _ _
  rw [← hbv] at CC CL
  rw [← hbv]
  clear hbv
  generalize u64 v = uv at *
  have hu := hu
  clear h
  go_enter Try.func36, Try.ntmps36
  go_wp2_with fail
  refine wp_region_held_drew (S := fun w' => Puts W w' sb rb n L 8 t L.length) (by kernel_rfl) HS.out (fun hHeld => ?_)
  refine wpAnyH_take (i := 0) (v := .agg #[]) rfl (by kernel_rfl) (by kernel_rfl) (by kernel_rfl) (fun _ _ _ h => h) (Or.inl ⟨by kernel_rfl, fun w hSw => by go_simp⟩) (by assumption) ?_
  change wpAnyH _ _ _ _ _ _ _ (Act.put _ (some 4) _) _
  try simp only [Act.put, List.setIfInBounds_toArray, List.set_cons_zero, List.set_cons_succ]
  refine wpAnyH_take (i := 1) (v := .pointer (some ⟨sb, 0, none⟩)) rfl (by kernel_rfl) (by kernel_rfl) (by kernel_rfl) (fun _ _ _ h => h) (Or.inl ⟨by kernel_rfl, fun w hSw => by go_simp⟩) (by assumption) ?_
  change wpAnyH _ _ _ _ _ _ _ (Act.put _ (some 5) _) _
  try simp only [Act.put, List.setIfInBounds_toArray, List.set_cons_zero, List.set_cons_succ]
  refine wpAnyH_take (i := 2) (v := .pointer (some ⟨sb, 0, none⟩)) rfl (by kernel_rfl) (by kernel_rfl) (by kernel_rfl) (fun _ _ _ h => h) (Or.inl ⟨by kernel_rfl, fun w hSw => by go_simp⟩) (by assumption) ?_
  change wpAnyH _ _ _ _ _ _ _ (Act.put _ (some 6) _) _
  try simp only [Act.put, List.setIfInBounds_toArray, List.set_cons_zero, List.set_cons_succ]
  refine wpAnyH_take (i := 3) (v := .slice (some ⟨rb, L.length, none⟩) (n - L.length) (n - L.length)) rfl (by kernel_rfl) (by kernel_rfl) (by kernel_rfl) (fun _ _ _ h => h) (Or.inl ⟨by kernel_rfl, fun w hSw => by have := hSw.box; go_simp⟩) (by assumption) ?_
  change wpAnyH _ _ _ _ _ _ _ (Act.put _ (some 7) _) _
  try simp only [Act.put, List.setIfInBounds_toArray, List.set_cons_zero, List.set_cons_succ]
  refine wpAnyH_take (i := 4) (v := .int .i64 v) rfl (by kernel_rfl) (by kernel_rfl) (by kernel_rfl) (fun _ _ _ h => h) (Or.inl ⟨by kernel_rfl, fun w hSw => by go_simp⟩) (by assumption) ?_
  change wpAnyH _ _ _ _ _ _ _ (Act.put _ (some 8) _) _
  try simp only [Act.put, List.setIfInBounds_toArray, List.set_cons_zero, List.set_cons_succ]
  refine wpAnyH_take (i := 5) (v := .int .u64 (uv : Nat)) rfl (by kernel_rfl) (by kernel_rfl) (by kernel_rfl) (fun _ _ _ h => h) (Or.inl ⟨by kernel_rfl, fun w hSw => by go_simp⟩) (by assumption) ?_
  change wpAnyH _ _ _ _ _ _ _ (Act.put _ (some 9) _) _
  try simp only [Act.put, List.setIfInBounds_toArray, List.set_cons_zero, List.set_cons_succ]
  refine wpAnyH_ready (rs := [6]) (by kernel_rfl) (by simp) ?_
  refine AllReadyH.cons (o := _) rfl (fun K hK => ?_) AllReadyH.nil
  rw [if_pos (by kernel_rfl)]
  go_simp
  refine (CC.out _ (by assumption)).mono ?_
  rintro e w7 ⟨rfl, hw7⟩
  refine hK.out _ _ (CL.out _ hw7) (fun hHeldw7 => ?_)
  clear hK K
  try simp only [Act.put, List.setIfInBounds_toArray, List.set_cons_zero, List.set_cons_succ]
  refine wpAnyH_done (by kernel_rfl) ?_ _
  have h7 : Hid (Puts W w7 sb rb n (L ++ bv) 0 t L.length) := hw7
  have bx := hw7.box
  have bf := hw7.free
  clear hw7 CC CL HS hHeld hHeldw7 hu
  obtain ⟨q, hq⟩ : ∃ q, q = n - L.length := ⟨_, rfl⟩
  rw [← hq] at bx
  have hq8 : 8 < q := by omega
  go_wp2_with fail
  go_end0
  refine ⟨rfl, ?_⟩
  have hm := h7.out.move (o' := L.length + 8)
  rw [show n - (L.length + 8) = n - L.length - 8 by omega] at hm
  rw [List.length_append, hbl.out]
  exact hm

set_option maxHeartbeats 2000000 in
set_option maxRecDepth 100000 in
theorem putByte_calls {W w : World} {sb rb n : Nat} {L : List Nat} {t : Nat → Nat} (v : Nat) (h : Puts W w sb rb n L 0 t L.length) (hn : L.length + 1 < n) :
    Calls Try.prog 37 #[.pointer (some ⟨sb, 0, none⟩), .int .u8 (v : Nat)] w fun e w' => e = .returned (.tuple #[]) ∧ Puts W w' sb rb n (L ++ [v]) 0 t (L ++ [v]).length := by
  have h1 := (h.opens (k := 1) (by omega))
  have h2 : Hid (Puts W (w.setCell ⟨rb, L.length, none⟩ (.int .u8 (v : Nat))) sb rb n (L ++ [v]) 0 t L.length) := Puts.put (vs := [v]) h1
  have bx := h.box
  have bx2 := h2.out.box
  have bf2 := h2.out.free
  have th := h.pt.there L.length (by omega)
  rw [Nat.zero_add] at th
  obtain ⟨x, hx⟩ := Option.isSome_iff_exists.1 th.1
  have hf := th.2
  clear th h1 h
  obtain ⟨q, hq⟩ : ∃ q, q = n - L.length := ⟨_, rfl⟩
  rw [← hq] at bx bx2
  have hq1 : 1 < q := by omega
  go_enter Try.func37, Try.ntmps37
  go_wp2_with fail
  go_end0
  refine ⟨rfl, ?_⟩
  have hm := h2.out.move (o' := L.length + 1)
  rw [show n - (L.length + 1) = n - L.length - 1 by omega] at hm
  rw [List.length_append]
  exact hm

theorem or_lt {a b : Nat} (ha : a < 256) (hb : b < 256) : a ||| b < 256 := Nat.or_lt_two_pow (n := 8) ha hb
theorem or_mod (o p q : Nat) (ho : o < 256) (hp : p < 256) (hq : q < 256) : (o ||| p ||| q) % 256 = o ||| p ||| q := Nat.mod_eq_of_lt (or_lt (or_lt ho hp) hq)

theorem code_ft (o : Nat) (ho : o < 256) : bits BinOp.or IntKind.u8 (o : Int) 64 = (((o ||| 0) ||| 64) % 256 : Nat) := by
  rw [or_mod o 0 64 ho (by omega) (by omega), Nat.or_zero]; exact u8_or_nat o 64 ho (by omega)
theorem code_tf (o : Nat) (ho : o < 256) : bits BinOp.or IntKind.u8 (o : Int) 128 = (((o ||| 128) ||| 0) % 256 : Nat) := by
  rw [or_mod o 128 0 ho (by omega) (by omega), Nat.or_zero]; exact u8_or_nat o 128 ho (by omega)
theorem code_tt (o : Nat) (ho : o < 256) : bits BinOp.or IntKind.u8 (bits BinOp.or IntKind.u8 (o : Int) 128) 64 = (((o ||| 128) ||| 64) % 256 : Nat) := by
  have e : bits BinOp.or IntKind.u8 (o : Int) 128 = ((o ||| 128 : Nat) : Int) := u8_or_nat o 128 ho (by omega)
  rw [or_mod o 128 64 ho (by omega) (by omega), e]
  exact u8_or_nat (o ||| 128) 64 (or_lt ho (by omega)) (by omega)

theorem codeByte_calls (gb : Nat) (G : Glob) (hc : G.code < 256) (w : World) (h1 : w.cell? ⟨gb, 33, none⟩ = some (.int .u8 (G.code : Nat))) (h2 : w.cell? ⟨gb, 34, none⟩ = some (.bool G.held)) (h3 : w.cell? ⟨gb, 35, none⟩ = some (.bool G.inl)) :
    Calls Try.prog 46 #[.pointer (some ⟨gb, 28, none⟩)] w fun e w' => e = .returned (.int .u8 (codeB G : Nat)) ∧ w' = w := by
  obtain ⟨a, b, c, d, e, f, g, h, i, j, k, l, m, n, o, he, inl, x1, x2, x3, x4, x5⟩ := G
  dsimp only at h1 h2 h3 hc
  cases he <;> cases inl
  · go_enter Try.func46, Try.ntmps46
    go_wp2_with fail
    go_ret
    exact ⟨ret_int (by show (o : Int) = (((o ||| 0) ||| 0) % 256 : Nat); rw [or_mod o 0 0 hc (by omega) (by omega), Nat.or_zero, Nat.or_zero]), rfl⟩
  · go_enter Try.func46, Try.ntmps46
    go_wp2_with fail
    go_ret
    exact ⟨ret_int (code_ft o hc), rfl⟩
  · go_enter Try.func46, Try.ntmps46
    go_wp2_with fail
    go_ret
    exact ⟨ret_int (code_tf o hc), rfl⟩
  · go_enter Try.func46, Try.ntmps46
    go_wp2_with fail
    go_ret
    exact ⟨ret_int (code_tt o hc), rfl⟩

end Go.Proofs.Qxb6614450a.W
