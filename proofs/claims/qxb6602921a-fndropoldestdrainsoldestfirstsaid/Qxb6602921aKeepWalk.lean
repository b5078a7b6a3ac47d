/-
  The walk of the law FnDropOldestKeepsSortedView (8), where its premises hold.
-/
import Derived.Test.Qxb6602921aKeep
import Derived.Test.Qxb6602921aSides
namespace Go.Proofs.Qxb6602921a
open Go.RowKit Go.Sort

set_option maxRecDepth 100000 in
set_option maxHeartbeats 4000000 in
theorem keep_some (a1 : Option Addr) (x2 : Addr) (c1 c2 n : Nat) (d s : Array Nat) (b : Bool) (w : World) (hn : n ≤ 65536) (hn0 : 0 < n) (h1 : IsFRow w a1 n c1 d) (h2 : IsFRow w (some x2) n c2 s) :
    Calls Try.prog 8 #[.slice a1 n c1, .slice (some x2) n c2, .bool b] w fun e w' => e = .returned (.bool true) ∧ Below w.heap.size w w' := by
  have hnil := fun w a n c => Lib.run_eql_slice_nil (P := Try.prog) w 22 25 a n c 0 0 Try.underlying22
  obtain ⟨b1, o1, rfl, hb1, hc1⟩ := frow_some h1 (by omega)
  obtain ⟨b2, o2, hx2, hb2, hc2⟩ := frow_some h2 (by omega)
  obtain rfl : x2 = ⟨b2, o2, none⟩ := by injection hx2
  have H1 : Hid _ := h1
  have H2 : Hid _ := h2
  have HC1 : Hid _ := hc1
  have HC2 : Hid _ := hc2
  clear h1 h2 hc1 hc2 hx2
  go_enter Try.func8, Try.ntmps8
  go_wp2_with (go_at_call 23; refine (bytes23_yes _ _ _ _ _ _ b _ (by omega)).mono ?_; rintro e w' ⟨rfl, rfl⟩)
  refine (sv_pos b2 o2 c2 b1 o1 c1 n s d w (by omega) H2.out.1 H1.out.1 (.inr hb2) (.inr hb1) HC2.out HC1.out).mono ?_
  rintro e w1 ⟨v, rfl, hv, hbel⟩
  rcases hv with ⟨rfl, hV⟩ | ⟨rfl, hV⟩
  case inr =>
    clear hV
    go_wp2
    go_ret
    exact ⟨rfl, hbel⟩
  case inl =>
    have HV : Hid (View n s d) := hV
    clear hV
    go_wp2_with fail
    refine (clone_some b1 o1 n c1 d w1 (by omega) (.inr (Nat.lt_of_lt_of_le hb1 hbel.size)) (fun j hj => (hbel.cell (show b1 < _ from hb1)).trans (HC1.out j hj))).mono ?_
    rintro e w2 ⟨rfl, hw2⟩
    have hz2 : Hid (w2.heap.size = w1.heap.size + 1) := by show _ = _; rw [hw2]; simp
    have hbel2 : Hid (Below w.heap.size w w2) := by show Below _ _ _; rw [hw2]; exact hbel.alloc hbel.size _
    have hq2 : Hid (Holds enc w2 w1.heap.size 0 d) := by show Holds _ _ _ _ _; rw [hw2]; exact holds_copy w1 d n H1.out.1
    have HW2 : Hid _ := hw2
    clear hw2
    go_wp2_with fail
    refine (clone_some b2 o2 n c2 s w2 (by omega) (.inr (Nat.lt_of_lt_of_le hb2 hbel2.out.size)) (fun j hj => (hbel2.out.cell (show b2 < _ from hb2)).trans (HC2.out j hj))).mono ?_
    rintro e w3 ⟨rfl, hw3⟩
    rw [hz2.out]
    have hz3 : Hid (w3.heap.size = w1.heap.size + 2) := by show _ = _; rw [hw3]; simp [hz2.out]
    have hq3 : Hid (Holds enc w3 w1.heap.size 0 d) := by show Holds _ _ _ _ _; rw [hw3]; exact holds_alloc _ (by rw [hz2.out]; omega) hq2.out
    have HW3 : Hid _ := hw3
    clear hw3
    go_wp2_with fail
    refine (clone_some w1.heap.size 0 n n d w3 (by omega) (.inr (by rw [hz3.out]; omega)) (fun j hj => (hq3.out j (by rw [H1.out.1]; exact hj)).1)).mono ?_
    rintro e w4 ⟨rfl, hw4⟩
    rw [hz3.out]
    have hz4 : Hid (w4.heap.size = w1.heap.size + 3) := by show _ = _; rw [hw4]; simp [hz3.out]
    have HW4 : Hid _ := hw4
    clear hw4
    go_wp2_with fail
    refine (newq_any _ _ _ _ _ _ _ w4).mono ?_
    rintro e w5 ⟨rfl, hw5⟩
    rw [hz4.out]
    obtain ⟨hq5, hv5⟩ : Hid (QSt w w5 (w1.heap.size + 3) w1.heap.size (w1.heap.size + 2) n 0 d b) ∧ Hid (VSt w w5 (w1.heap.size + 3) w1.heap.size (w1.heap.size + 2) (w1.heap.size + 1) n 0 d s) := by
      have hmade := made_some w w1 hbel n d s H1.out.1 H2.out.1 b HV.out
      rw [← HW2.out, ← HW3.out, ← HW4.out, ← hw5] at hmade
      exact ⟨hmade.1, hmade.2⟩
    clear hw5 HW2 HW3 HW4 hz2 hz3 hz4 hq2 hq3 hbel2
    go_wp2_with fail
    refine (drop_some_q hq5.out hv5.out hn0 H1.out.1 (by omega)).mono ?_
    rintro e w6 ⟨rfl, hq6, s', hv6⟩
    obtain ⟨oq, hoq, k0⟩ := hq6.c0
    have k1 := hv6.c1
    have k2 := hq6.c2
    have HQ6 : Hid _ := hq6
    have HV6 : Hid _ := hv6
    have HOQ : Hid _ := hoq
    clear hq5 hv5 hq6 hv6 hoq
    generalize w1.heap.size + 3 = P at *
    generalize w1.heap.size + 2 = O at *
    generalize w1.heap.size + 1 = S at *
    generalize w1.heap.size = Q at *
    obtain ⟨m, hm⟩ : ∃ m, n - (0 + 1) = m := ⟨_, rfl⟩
    rw [hm] at k0 k1
    have hm1 : n ≤ m + 1 := by omega
    have hm2 : m + 1 ≤ n := by omega
    have HM : Hid _ := hm
    clear hm
    go_wp2_with fail
    refine (queueOf_any P (some ⟨Q, oq, none⟩) m m w6 k0).mono ?_
    rintro e w' ⟨rfl, rfl⟩
    go_wp2_with fail
    refine (sortedOf_any P (some ⟨S, 0, none⟩) m n w6 k1).mono ?_
    rintro e w' ⟨rfl, rfl⟩
    go_wp2_with fail
    refine (askedOf_any P b w6 k2).mono ?_
    rintro e w' ⟨rfl, rfl⟩
    clear k0 k1 k2
    go_wp2
    go_loopw [12] (fun v wr => ∃ k q : Nat, v = .int .i64 k ∧ k ≤ m ∧ wr = w6.drewN q) (fun v _ => m - (intOf v).toNat)
    case atStart => exact ⟨0, 0, rfl, Nat.zero_le _, rfl⟩
    case round =>
      obtain ⟨k, q, rfl, hk, hwr⟩ := hrel
      have HWR : Hid _ := hwr
      by_cases hlt : k < m
      · obtain ⟨x, hx⟩ : ∃ x, d[k + 1]! = x := ⟨_, rfl⟩
        have g1 : wr.cell? ⟨Q, oq + k, none⟩ = some (.float .f64 x) := by
          rw [hwr, ← hx, HOQ.out (by omega), show 0 + 1 + k = k + 1 by omega]
          exact HQ6.out.qs (k + 1) (by omega)
        have g2 : wr.cell? ⟨O, k + 1, none⟩ = some (.float .f64 x) := by
          rw [hwr, ← hx]
          exact HQ6.out.os (k + 1) (by omega)
        have cb := sameClass_any x x
        rw [same_self] at cb
        have CB : Hid _ := cb
        clear cb hx hwr
        go_wp2_with fail
        go_quiet ((go_at_call 14; exact Calls.quiet_of_same (calls_flip (CB.out _))))
        go_wp2
        go_roundw
        case rel => exact ⟨k + 1, q + nq, by go_num, by omega, by rw [HWR.out]; simp⟩
        case measure => simp [intOf]; omega
      · clear hwr
        have hcS : Hid (∀ j, j < m → wr.cell? ⟨S, 0 + j, none⟩ = some (.float .f64 s'[j]!)) := fun j hj => by
          rw [HWR.out]
          exact (HV6.out.hold j (by rw [HV6.out.view.ss, HM.out]; exact hj)).1
        have hcQ : Hid (∀ j, j < m → wr.cell? ⟨Q, oq + j, none⟩ = some (.float .f64 (dr d (0 + 1))[j]!)) := fun j hj => by
          rw [HWR.out, HOQ.out (by omega), dr_get]
          exact HQ6.out.qs (0 + 1 + j) (by omega)
        have hyes : Hid (View m s' (dr d (0 + 1))) := by show View _ _ _; rw [← HM.out]; exact HV6.out.view
        have hbr : Hid (Below w.heap.size w wr) := by show Below _ _ _; rw [HWR.out]; exact bel_drewN HQ6.out.bel q
        have hlS : Hid (m = 0 ∨ S < wr.heap.size) := by
          rcases Nat.eq_zero_or_pos m with h | h
          · exact .inl h
          · exact .inr (World.block_lt_of_cell? _ _ (hcS.out 0 h))
        have hlQ : Hid (m = 0 ∨ Q < wr.heap.size) := by
          rcases Nat.eq_zero_or_pos m with h | h
          · exact .inl h
          · exact .inr (World.block_lt_of_cell? _ _ (hcQ.out 0 h))
        have hsS : Hid (s'.size = m) := HV6.out.view.ss.trans HM.out
        have hsQ : Hid ((dr d (0 + 1)).size = m) := (dr_size H1.out.1 _).trans HM.out
        clear HWR HV6 HQ6 HOQ
        go_wp2_with fail
        refine (sv_pos S 0 n Q oq m m s' (dr d (0 + 1)) wr (by omega) hsS.out hsQ.out hlS.out hlQ.out hcS.out hcQ.out).mono ?_
        rintro e w7 ⟨v, rfl, hv, hbel7⟩
        obtain rfl : v = .bool true := by
          rcases hv with ⟨h, _⟩ | ⟨_, h⟩
          · exact h
          · exact absurd hyes.out h
        clear hv
        go_wp2
        go_ret
        exact ⟨rfl, hbr.out.trans (hbel7.mono hbr.out.size)⟩

set_option maxRecDepth 100000 in
set_option maxHeartbeats 4000000 in
theorem keep_nil (a1 : Option Addr) (c1 n : Nat) (d : Array Nat) (b : Bool) (w : World) (hn : n ≤ 65536) (hn0 : 0 < n) (h1 : IsFRow w a1 n c1 d) :
    Calls Try.prog 8 #[.slice a1 n c1, .slice none 0 0, .bool b] w fun e w' => e = .returned (.bool true) ∧ Below w.heap.size w w' := by
  have hnil := fun w a n c => Lib.run_eql_slice_nil (P := Try.prog) w 22 25 a n c 0 0 Try.underlying22
  obtain ⟨b1, o1, rfl, hb1, hc1⟩ := frow_some h1 (by omega)
  have H1 : Hid _ := h1
  have HC1 : Hid _ := hc1
  clear h1 hc1
  go_enter Try.func8, Try.ntmps8
  go_wp2_with (go_at_call 23; refine (bytes23_yes _ _ _ _ _ _ b _ (by omega)).mono ?_; rintro e w' ⟨rfl, rfl⟩)
  refine (clone_some b1 o1 n c1 d w (by omega) (.inr hb1) HC1.out).mono ?_
  rintro e w2 ⟨rfl, hw2⟩
  have hz2 : Hid (w2.heap.size = w.heap.size + 1) := by show _ = _; rw [hw2]; simp
  have hq2 : Hid (Holds enc w2 w.heap.size 0 d) := by show Holds _ _ _ _ _; rw [hw2]; exact holds_copy w d n H1.out.1
  have HW2 : Hid _ := hw2
  clear hw2
  go_wp2_with fail
  refine (clone_nil w2).mono ?_
  rintro e w' ⟨rfl, rfl⟩
  go_wp2_with fail
  refine (clone_some w.heap.size 0 n n d w2 (by omega) (.inr (by rw [hz2.out]; omega)) (fun j hj => (hq2.out j (by rw [H1.out.1]; exact hj)).1)).mono ?_
  rintro e w4 ⟨rfl, hw4⟩
  rw [hz2.out]
  have hz4 : Hid (w4.heap.size = w.heap.size + 2) := by show _ = _; rw [hw4]; simp [hz2.out]
  have HW4 : Hid _ := hw4
  clear hw4
  go_wp2_with fail
  refine (newq_any _ _ _ _ _ _ _ w4).mono ?_
  rintro e w5 ⟨rfl, hw5⟩
  rw [hz4.out]
  obtain ⟨hq5, hv5⟩ : Hid (QSt w w5 (w.heap.size + 2) w.heap.size (w.heap.size + 1) n 0 d b) ∧ Hid (w5.cell? ⟨w.heap.size + 2, 1, none⟩ = some (.slice none 0 0)) := by
    have hmade := made_nil w w (Below.refl _ _) n d H1.out.1 b
    rw [← HW2.out, ← HW4.out, ← hw5] at hmade
    exact ⟨hmade.1, hmade.2⟩
  clear hw5 HW2 HW4 hz2 hz4 hq2
  go_wp2_with fail
  refine (drop_nil_q hq5.out hn0 (by omega) hv5.out).mono ?_
  rintro e w6 ⟨rfl, hq6, k1⟩
  obtain ⟨oq, hoq, k0⟩ := hq6.c0
  have k2 := hq6.c2
  have HQ6 : Hid _ := hq6
  have HOQ : Hid _ := hoq
  clear hq5 hv5 hq6 hoq
  obtain ⟨P, hP⟩ : ∃ P, w.heap.size + 2 = P := ⟨_, rfl⟩
  obtain ⟨O, hO⟩ : ∃ O, w.heap.size + 1 = O := ⟨_, rfl⟩
  obtain ⟨Q, hQ⟩ : ∃ Q, w.heap.size = Q := ⟨_, rfl⟩
  rw [hP, hO] at HQ6
  rw [hP] at k0 k1 k2 ⊢
  rw [hO]
  obtain ⟨m, hm⟩ : ∃ m, n - (0 + 1) = m := ⟨_, rfl⟩
  rw [hm] at k0
  have hm1 : n ≤ m + 1 := by omega
  have hm2 : m + 1 ≤ n := by omega
  clear hm hP hO hQ
  go_wp2_with fail
  refine (queueOf_any P (some ⟨w.heap.size, oq, none⟩) m m w6 k0).mono ?_
  rintro e w' ⟨rfl, rfl⟩
  go_wp2_with fail
  refine (sortedOf_any P none 0 0 w6 k1).mono ?_
  rintro e w' ⟨rfl, rfl⟩
  go_wp2_with fail
  refine (askedOf_any P b w6 k2).mono ?_
  rintro e w' ⟨rfl, rfl⟩
  clear k0 k1 k2
  go_wp2
  go_loopw [12] (fun v wr => ∃ k q : Nat, v = .int .i64 k ∧ k ≤ m ∧ wr = w6.drewN q) (fun v _ => m - (intOf v).toNat)
  case atStart => exact ⟨0, 0, rfl, Nat.zero_le _, rfl⟩
  case round =>
    obtain ⟨k, q, rfl, hk, hwr⟩ := hrel
    have HWR : Hid _ := hwr
    by_cases hlt : k < m
    · obtain ⟨x, hx⟩ : ∃ x, d[k + 1]! = x := ⟨_, rfl⟩
      have g1 : wr.cell? ⟨w.heap.size, oq + k, none⟩ = some (.float .f64 x) := by
        rw [hwr, ← hx, HOQ.out (by omega), show 0 + 1 + k = k + 1 by omega]
        exact HQ6.out.qs (k + 1) (by omega)
      have g2 : wr.cell? ⟨O, k + 1, none⟩ = some (.float .f64 x) := by
        rw [hwr, ← hx]
        exact HQ6.out.os (k + 1) (by omega)
      have cb := sameClass_any x x
      rw [same_self] at cb
      have CB : Hid _ := cb
      clear cb hx hwr
      go_wp2_with fail
      go_quiet ((go_at_call 14; exact Calls.quiet_of_same (calls_flip (CB.out _))))
      go_wp2
      go_roundw
      case rel => exact ⟨k + 1, q + nq, by go_num, by omega, by rw [HWR.out]; simp⟩
      case measure => simp [intOf]; omega
    · clear hwr
      go_wp2
      go_ret
      exact ⟨rfl, by rw [HWR.out]; exact bel_drewN HQ6.out.bel q⟩
end Go.Proofs.Qxb6602921a
