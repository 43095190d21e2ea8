import Derived.Test.Qxb6613752aDoorCount
namespace Go.Proofs.Qxb6613752aDoor.W
open Go.RowKit

/-- At the place that open says, the name stands in the text, plain, between quotes. -/
def FitAt (n0 : Nat) (z : Nat → Nat) (l : List UInt8) (op : Int) : Prop :=
  ∃ o : Nat, op = o ∧ o + 1 + l.length < n0 ∧ z o = 34 ∧ z (o + 1 + l.length) = 34 ∧ ∀ j, j < l.length → (l.getD j 0).toNat ≠ 34 ∧ (l.getD j 0).toNat ≠ 92 ∧ z (o + 1 + j) = (l.getD j 0).toNat

/-- What the batch is where zjdBatchFits says yes. -/
structure Fits (n0 n1 n2 n3 n4 : Nat) (N : Int) (z : Nat → Nat) (l : Nat → List UInt8) (op : Nat → Int) (h : Nat → Int) : Prop where
  n16 : n1 ≤ 16
  e2 : n2 = n1
  e3 : n3 = n1
  e4 : n4 = n1
  N1 : (n1 : Int) < N
  N2 : N ≤ 65536
  fit : ∀ k, k < n1 → FitAt n0 z (l k) (op k)
  hash : ∀ k, k < n1 → ∀ j, j < k → l j = l k → h j = h k

set_option maxHeartbeats 4000000 in
set_option maxRecDepth 100000 in
theorem batchFits_calls (a0 a1 a2 a3 a4 : Option Addr) (n0 c0 n1 c1 n2 c2 n3 c3 n4 c4 : Nat) (N : Int) (A : Nat → Option Addr) (Ln C : Nat → Nat) (l : Nat → List UInt8) (z : Nat → Nat) (op h : Nat → Int) (w : World)
    (h0 : n0 ≤ 1048576) (h1 : n1 ≤ 1048576) (h2 : n2 ≤ 1048576) (_h3 : n3 ≤ 1048576) (h4 : n4 ≤ 1048576) (hN : -9223372036854775808 ≤ N ∧ N ≤ 9223372036854775807)
    (hz : Row w a0 n0 (fun i => .int .u8 (z i : Nat))) (hnm : Nms w a1 n1 A Ln C l) (hl : ∀ i, i < n1 → Ln i ≤ 1048576)
    (hop : Row w a2 n2 (fun i => .int .i32 (op i))) (hob : ∀ i, i < n2 → -2147483648 ≤ op i ∧ op i ≤ 2147483647) (hh : Row w a4 n4 (fun i => .int .u64 (h i))) :
    Calls Tryd.prog 11 #[.slice a0 n0 c0, .slice a1 n1 c1, .slice a2 n2 c2, .slice a3 n3 c3, .slice a4 n4 c4, .int .i64 N] w fun e w' =>
      (e = .returned (.bool true) ∧ Fits n0 n1 n2 n3 n4 N z l op h ∨ e = .returned (.bool false)) ∧ ∃ n, w' = w.drewN n := by
  have HZ : Hid (Row w a0 n0 (fun i => .int .u8 (z i : Nat))) := hz
  have HM : Hid (Nms w a1 n1 A Ln C l) := hnm
  have HL : Hid (∀ i, i < n1 → Ln i ≤ 1048576) := hl
  have HO : Hid (Row w a2 n2 (fun i => .int .i32 (op i))) := hop
  have HOB : Hid (∀ i, i < n2 → -2147483648 ≤ op i ∧ op i ≤ 2147483647) := hob
  have HH : Hid (Row w a4 n4 (fun i => .int .u64 (h i))) := hh
  clear hz hnm hl hop hob hh
  by_cases b0 : 16 < n1
  · have t0 : decide ((16 : Int) < (n1 : Int)) = true := by simp; omega
    go_enter Tryd.func11, Tryd.ntmps11
    go_wp2
    all_goals
      go_ret
      exact ⟨.inr rfl, 0, rfl⟩
  have t0 : decide ((16 : Int) < (n1 : Int)) = false := by simp; omega
  by_cases b2 : n2 ≠ n1
  · have t2 : ((n2 : Int) != (n1 : Int)) = true := by rw [bne_iff_ne]; omega
    go_enter Tryd.func11, Tryd.ntmps11
    go_wp2
    all_goals
      go_ret
      exact ⟨.inr rfl, 0, rfl⟩
  have t2 : ((n2 : Int) != (n1 : Int)) = false := by rw [bne_eq_false_iff_eq]; omega
  by_cases b3 : n3 ≠ n1
  · have t3 : ((n3 : Int) != (n1 : Int)) = true := by rw [bne_iff_ne]; omega
    go_enter Tryd.func11, Tryd.ntmps11
    go_wp2
    all_goals
      go_ret
      exact ⟨.inr rfl, 0, rfl⟩
  have t3 : ((n3 : Int) != (n1 : Int)) = false := by rw [bne_eq_false_iff_eq]; omega
  by_cases b4 : n4 ≠ n1
  · have t4 : ((n4 : Int) != (n1 : Int)) = true := by rw [bne_iff_ne]; omega
    go_enter Tryd.func11, Tryd.ntmps11
    go_wp2
    all_goals
      go_ret
      exact ⟨.inr rfl, 0, rfl⟩
  have t4 : ((n4 : Int) != (n1 : Int)) = false := by rw [bne_eq_false_iff_eq]; omega
  by_cases b5 : N ≤ n1
  · have t5 : decide (N ≤ (n1 : Int)) = true := by simp; omega
    go_enter Tryd.func11, Tryd.ntmps11
    go_wp2
    all_goals
      go_ret
      exact ⟨.inr rfl, 0, rfl⟩
  have t5 : decide (N ≤ (n1 : Int)) = false := by simp; omega
  by_cases b6 : 65536 < N
  · have t6 : decide ((65536 : Int) < N) = true := by simp; omega
    go_enter Tryd.func11, Tryd.ntmps11
    go_wp2
    all_goals
      go_ret
      exact ⟨.inr rfl, 0, rfl⟩
  have t6 : decide ((65536 : Int) < N) = false := by simp; omega
  have HB : Hid (n2 = n1 ∧ n3 = n1 ∧ n4 = n1) := by exact ⟨by omega, by omega, by omega⟩
  have l2 : n1 ≤ n2 := by omega
  have l4 : n1 ≤ n4 := by omega
  clear b2 b3 b4
  go_enter Tryd.func11, Tryd.ntmps11
  go_wp2
  go_loopg [14] n1 (fun gk i wr => ∃ k : Nat, k ≤ n1 ∧ i = .int .i64 k ∧ Hid (k + gk = n1) ∧ Hid (∀ j, j < k → FitAt n0 z (l j) (op j)) ∧ Hid (∃ n, wr = w.drewN n))
  case atStart => exact ⟨0, Nat.zero_le _, rfl, by show _ = _; omega, fun _ h => absurd h (Nat.not_lt_zero _), 0, rfl⟩
  case round =>
    obtain ⟨k, hk, rfl, HG, hfit, hw⟩ := hrel
    by_cases hlt : k < n1
    · obtain ⟨b, o, rfl, hc⟩ := HO.out (by omega)
      have c1 : wr.cell? ⟨b, o + k, none⟩ = some (.int .i32 (op k)) := by
        obtain ⟨n, rfl⟩ := hw.out
        exact hc k (by omega)
      have hob := HOB.out k (by omega)
      have hkn2 : k < n2 := by omega
      clear hc
      by_cases hneg : op k < 0 ∨ (n0 : Int) ≤ op k
      · generalize op k = x at *
        by_cases hx : x < 0
        · have s1 : decide (x < 0) = true := by simpa using hx
          go_wp2
          all_goals
            go_ret
            exact ⟨.inr rfl, hw.out⟩
        · have s1 : decide (x < 0) = false := by simpa using hx
          have s2 : decide ((n0 : Int) ≤ x) = true := by simp; omega
          go_wp2
          all_goals
            go_ret
            exact ⟨.inr rfl, hw.out⟩
      · obtain ⟨ok, hok⟩ : ∃ ok : Nat, op k = ok := ⟨(op k).toNat, by omega⟩
        have HOK : Hid (op k = ok) := hok
        have hok0 : ok < n0 := by omega
        rw [hok] at c1
        obtain ⟨b1, o1, rfl, hc1⟩ := HM.out.row (by omega)
        have c2 : wr.cell? ⟨b1, o1 + k, none⟩ = some (.slice (A k) (Ln k) (C k)) := by
          obtain ⟨n, rfl⟩ := hw.out
          exact hc1 k hlt
        obtain ⟨b0', o0, rfl, hc0⟩ := HZ.out (by omega)
        have hlk := HL.out k hlt
        have hsk := (HM.out.sl k hlt).row
        have HC0 : Hid (∀ i, i < n0 → ∀ n, (w.drewN n).cell? ⟨b0', o0 + i, none⟩ = some (.int .u8 (z i : Nat))) := fun i hi n => hc0 i hi
        have HSK : Hid (Ln k = (l k).length ∧ Row w (A k) (Ln k) (fun i => .int .u8 (((l k).getD i 0).toNat : Int))) := hsk
        have s1 : decide ((ok : Int) < 0) = false := by simp
        have s2 : decide ((n0 : Int) ≤ (ok : Int)) = false := by simp; omega
        clear hc1 hc0 hsk hob hok hneg
        by_cases hlen : (n0 : Int) - ok - 1 ≤ Ln k
        · go_wp2
          all_goals
            go_ret
            exact ⟨.inr rfl, hw.out⟩
        · have zc1 : wr.cell? ⟨b0', o0 + ok, none⟩ = some (.int .u8 (z ok : Nat)) := by
            obtain ⟨n, rfl⟩ := hw.out
            exact HC0.out ok hok0 n
          have zc2 : wr.cell? ⟨b0', o0 + (ok + 1 + Ln k), none⟩ = some (.int .u8 (z (ok + 1 + Ln k) : Nat)) := by
            obtain ⟨n, rfl⟩ := hw.out
            exact HC0.out (ok + 1 + Ln k) (by omega) n
          have hlen2 : ok + 1 + Ln k < n0 := by omega
          cases q1 : ((z ok : Int) != 34)
          · cases q2 : ((z (ok + 1 + Ln k) : Int) != 34)
            · have Q1 : Hid (z ok = 34) := by have := bne_eq_false_iff_eq.1 q1; show _ = _; omega
              have Q2 : Hid (z (ok + 1 + Ln k) = 34) := by have := bne_eq_false_iff_eq.1 q2; show _ = _; omega
              have FK : Hid ((∀ t, t < Ln k → ((l k).getD t 0).toNat ≠ 34 ∧ ((l k).getD t 0).toNat ≠ 92 ∧ z (ok + 1 + t) = ((l k).getD t 0).toNat) → ∀ j, j < k + 1 → FitAt n0 z (l j) (op j)) := by
                intro hh j hj
                by_cases e : j = k
                · subst e
                  have e1 := HSK.out.1
                  rw [e1] at hh hlen2
                  have q2' := Q2.out
                  rw [e1] at q2'
                  exact ⟨ok, HOK.out, hlen2, Q1.out, q2', hh⟩
                · exact hfit.out j (by omega)
              clear hlen Q1 Q2
              generalize hll : l k = ll at *
              clear hll
              have HRow : Hid (Row w (A k) (Ln k) (fun i => .int .u8 ((ll.getD i 0).toNat : Int))) := HSK.out.2
              clear HSK
              generalize A k = Ak at *
              generalize Ln k = Lk at *
              generalize C k = Ck at *
              go_wp2
              clear q1 q2 zc1 zc2
              go_loopg [17] Lk (fun gj i wx => ∃ j : Nat, j ≤ Lk ∧ i = .int .i64 j ∧ Hid (j + gj = Lk) ∧ Hid (∀ t, t < j → (ll.getD t 0).toNat ≠ 34 ∧ (ll.getD t 0).toNat ≠ 92 ∧ z (ok + 1 + t) = (ll.getD t 0).toNat) ∧ Hid (∃ n, wx = w.drewN n))
              case atStart => exact ⟨0, Nat.zero_le _, rfl, by show _ = _; omega, fun _ h => absurd h (Nat.not_lt_zero _), hw⟩
              case round =>
                obtain ⟨j, hj, rfl, HGj, hall, hwx⟩ := hrel
                by_cases hjl : j < Lk
                · obtain ⟨bn, on, rfl, hcn⟩ := HRow.out (by omega)
                  have nc : wr.cell? ⟨bn, on + j, none⟩ = some (.int .u8 ((ll.getD j 0).toNat : Int)) := by
                    obtain ⟨n, rfl⟩ := hwx.out
                    exact hcn j hjl
                  have zc : wr.cell? ⟨b0', o0 + (ok + 1 + j), none⟩ = some (.int .u8 (z (ok + 1 + j) : Nat)) := by
                    obtain ⟨n, rfl⟩ := hwx.out
                    exact HC0.out (ok + 1 + j) (by omega) n
                  have hoj : ok + 1 + j < n0 := by omega
                  have NX : Hid ((ll.getD j 0).toNat ≠ 34 → (ll.getD j 0).toNat ≠ 92 → z (ok + 1 + j) = (ll.getD j 0).toNat → ∀ t, t < j + 1 → (ll.getD t 0).toNat ≠ 34 ∧ (ll.getD t 0).toNat ≠ 92 ∧ z (ok + 1 + t) = (ll.getD t 0).toNat) := fun x1 x2 x3 t ht => by
                    by_cases e : t = j
                    · subst e; exact ⟨x1, x2, x3⟩
                    · exact hall.out t (by omega)
                  clear hcn
                  generalize (ll.getD j 0).toNat = x at *
                  generalize z (ok + 1 + j) = y at *
                  cases p1 : ((x : Int) == 34)
                  · cases p2 : ((x : Int) == 92)
                    · cases p3 : ((y : Int) != (x : Int))
                      · have P : Hid (∀ t, t < j + 1 → (ll.getD t 0).toNat ≠ 34 ∧ (ll.getD t 0).toNat ≠ 92 ∧ z (ok + 1 + t) = (ll.getD t 0).toNat) := NX.out (by have := beq_eq_false_iff_ne.1 p1; omega) (by have := beq_eq_false_iff_ne.1 p2; omega) (by have := bne_eq_false_iff_eq.1 p3; omega)
                        clear NX
                        go_wp2
                        go_quiet (fail)
                        go_wp2
                        go_roundg (gk - 1)
                        case measure => have := HGj.out; omega
                        case rel => exact ⟨j + 1, by omega, by go_num, by have := HGj.out; show _ = _; omega, P, drewN_more hwx nq⟩
                      · go_wp2
                        go_quiet (fail)
                        go_wp2
                        go_ret
                        exact ⟨.inr rfl, drewN_more hwx nq⟩
                    · go_wp2
                      go_quiet (fail)
                      go_wp2
                      go_ret
                      exact ⟨.inr rfl, drewN_more hwx nq⟩
                  · go_wp2
                    go_quiet (fail)
                    go_wp2
                    go_ret
                    exact ⟨.inr rfl, drewN_more hwx nq⟩
                · obtain rfl : j = Lk := by omega
                  have P : Hid (∀ j, j < k + 1 → FitAt n0 z (l j) (op j)) := FK.out hall.out
                  go_wp2
                  go_roundg (n1 - (k + 1))
                  case measure => have := HG.out; omega
                  case rel => exact ⟨k + 1, by omega, by go_num, by have := HG.out; show _ = _; omega, P, hwx⟩
            · clear hlen
              go_wp2
              all_goals
                go_ret
                exact ⟨.inr rfl, hw.out⟩
          · clear hlen
            go_wp2
            all_goals
              go_ret
              exact ⟨.inr rfl, hw.out⟩
    · obtain rfl : k = n1 := by omega
      go_wp2
      clear HG HZ
      go_loopg [18] k (fun gk i wx => ∃ q : Nat, q ≤ k ∧ i = .int .i64 q ∧ Hid (q + gk = k) ∧ Hid (∀ q', q' < q → ∀ j, j < q' → l j = l q' → h j = h q') ∧ Hid (∃ n, wx = w.drewN n))
      case atStart => exact ⟨0, Nat.zero_le _, rfl, by show _ = _; omega, fun _ h => absurd h (Nat.not_lt_zero _), hw⟩
      case round =>
        obtain ⟨q, hq, rfl, HG, hall, hwx⟩ := hrel
        by_cases hqk : q < k
        · go_wp2
          go_loopg [19] q (fun gj i wx => ∃ j : Nat, j ≤ q ∧ i = .int .i64 j ∧ Hid (j + gj = q) ∧ Hid (∀ t, t < j → l t = l q → h t = h q) ∧ Hid (∃ n, wx = w.drewN n))
          case atStart => exact ⟨0, Nat.zero_le _, rfl, by show _ = _; omega, fun _ h => absurd h (Nat.not_lt_zero _), hwx⟩
          case round =>
            obtain ⟨j, hj, rfl, HGj, hallj, hwy⟩ := hrel
            by_cases hjq : j < q
            · obtain ⟨b1, o1, rfl, hc1⟩ := HM.out.row (by omega)
              obtain ⟨b4, o4, rfl, hc4⟩ := HH.out (by omega)
              have cj : wr.cell? ⟨b1, o1 + j, none⟩ = some (.slice (A j) (Ln j) (C j)) := by
                obtain ⟨n, rfl⟩ := hwy.out
                exact hc1 j (by omega)
              have cq : wr.cell? ⟨b1, o1 + q, none⟩ = some (.slice (A q) (Ln q) (C q)) := by
                obtain ⟨n, rfl⟩ := hwy.out
                exact hc1 q (by omega)
              have dj : wr.cell? ⟨b4, o4 + j, none⟩ = some (.int .u64 (h j)) := by
                obtain ⟨n, rfl⟩ := hwy.out
                exact hc4 j (by omega)
              have dq : wr.cell? ⟨b4, o4 + q, none⟩ = some (.int .u64 (h q)) := by
                obtain ⟨n, rfl⟩ := hwy.out
                exact hc4 q (by omega)
              have EQ : Hid (∀ m, Calls Tryd.prog 27 #[.slice (A j) (Ln j) (C j), .slice (A q) (Ln q) (C q)] (wr.drewN m) fun e w' => e = .returned (.bool (l j == l q)) ∧ ∃ p, w' = (wr.drewN m).drewN p) := fun m => by
                obtain ⟨n, rfl⟩ := hwy.out
                exact eqBytes_calls _ _ _ _ _ _ _ _ _ (HM.out.sl j (by omega)) (HM.out.sl q (by omega)) (HM.out.le j (by omega))
              have hjk : j < k := by omega
              have hj4 : j < n4 := by omega
              have hq4 : q < n4 := by omega
              have NX1 : Hid ((l j == l q) = false → ∀ t, t < j + 1 → l t = l q → h t = h q) := fun e t ht et => by
                by_cases e2 : t = j
                · subst e2; exact absurd et (beq_eq_false_iff_ne.1 e)
                · exact hallj.out t (by omega) et
              have NX2 : Hid ((h j != h q) = false → ∀ t, t < j + 1 → l t = l q → h t = h q) := fun e t ht et => by
                by_cases e2 : t = j
                · subst e2; exact bne_eq_false_iff_eq.1 e
                · exact hallj.out t (by omega) et
              clear hc1 hc4
              generalize (l j == l q) = eb at *
              generalize A j = Aj at *
              generalize Ln j = Lj at *
              generalize C j = Cj at *
              generalize A q = Aq at *
              generalize Ln q = Lq at *
              generalize C q = Cq at *
              generalize h j = hj0 at *
              generalize h q = hq0 at *
              cases eb
              · have P := NX1.out (by simp)
                have PP : Hid (∀ t, t < j + 1 → l t = l q → h t = hq0) := P
                clear P NX1 NX2
                go_wp2
                go_quiet ((go_at_call 27; exact Calls.quiet_of (EQ.out _)))
                go_wp2
                go_roundg (q - (j + 1))
                case measure => have := HGj.out; omega
                case rel => exact ⟨j + 1, by omega, by go_num, by show _ = _; omega, PP, drewN_more hwy nq⟩
              · cases hne : (hj0 != hq0)
                · have P := NX2.out hne
                  have PP : Hid (∀ t, t < j + 1 → l t = l q → h t = hq0) := P
                  clear P NX1 NX2
                  go_wp2
                  go_quiet ((go_at_call 27; exact Calls.quiet_of (EQ.out _)))
                  go_wp2
                  go_roundg (q - (j + 1))
                  case measure => have := HGj.out; omega
                  case rel => exact ⟨j + 1, by omega, by go_num, by show _ = _; omega, PP, drewN_more hwy nq⟩
                · go_wp2
                  go_quiet ((go_at_call 27; exact Calls.quiet_of (EQ.out _)))
                  go_wp2
                  go_ret
                  exact ⟨.inr rfl, drewN_more hwy nq⟩
            · obtain rfl : j = q := by omega
              have PP : Hid (∀ q', q' < j + 1 → ∀ t, t < q' → l t = l q' → h t = h q') := fun q' hq' t ht et => by
                by_cases e : q' = j
                · subst e; exact hallj.out t ht et
                · exact hall.out q' (by omega) t ht et
              go_wp2
              go_roundg (k - (j + 1))
              case measure => have := HG.out; omega
              case rel => exact ⟨j + 1, by omega, by go_num, by show _ = _; omega, PP, hwy⟩
        · obtain rfl : q = k := by omega
          go_wp2
          go_ret
          exact ⟨.inl ⟨rfl, ⟨by omega, HB.out.1, HB.out.2.1, HB.out.2.2, by omega, by omega, hfit.out, hall.out⟩⟩, hwx.out⟩

end Go.Proofs.Qxb6613752aDoor.W
