/-
  The walk of the law FnDropOldestDrainsOldestFirst (9).
-/
import Derived.Test.Qxb6602921aKeepWalk
namespace Go.Proofs.Qxb6602921a
open Go.RowKit Go.Sort

theorem bytes30_yes (a1 a2 : Option Addr) (n1 c1 n2 c2 : Nat) (b : Bool) (k : Int) (w : World) (hn : n1 + n2 ≤ 1048576) : Calls Try.prog 30 #[.slice a1 n1 c1, .slice a2 n2 c2, .bool b, .int .i64 k] w fun e w' => e = .returned (.bool true) ∧ w = w' := by
  go_enter Try.func30, Try.ntmps30
  go_wp2
  go_ret
  exact ⟨rfl, rfl⟩
theorem bytes30_no (a1 a2 : Option Addr) (n1 c1 n2 c2 : Nat) (b : Bool) (k : Int) (w : World) (hn : 1048576 < n1 + n2) : Calls Try.prog 30 #[.slice a1 n1 c1, .slice a2 n2 c2, .bool b, .int .i64 k] w fun e w' => e = .returned (.bool false) ∧ w = w' := by
  by_cases h1 : 1048576 < n1
  · go_enter Try.func30, Try.ntmps30
    go_wp2
    go_ret
    exact ⟨rfl, rfl⟩
  · by_cases h2 : 1048576 < n2
    · go_enter Try.func30, Try.ntmps30
      go_wp2
      go_ret
      exact ⟨rfl, rfl⟩
    · go_enter Try.func30, Try.ntmps30
      go_wp2
      go_ret
      exact ⟨rfl, rfl⟩

theorem drain_out (a1 a2 : Option Addr) (n1 c1 n2 c2 : Nat) (b : Bool) (k : Int) (w : World) (h : 4096 < n1 ∨ 4096 < n2 ∨ k < 0 ∨ (n1 : Int) < k) :
    Calls Try.prog 9 #[.slice a1 n1 c1, .slice a2 n2 c2, .bool b, .int .i64 k] w fun e w' => e = .returned (.bool true) ∧ Below w.heap.size w w' := by
  by_cases hb : n1 + n2 ≤ 1048576
  · by_cases h1 : 4096 < n1
    · clear h
      go_enter Try.func9, Try.ntmps9
      go_wp2_with (go_at_call 30; refine (bytes30_yes a1 a2 n1 c1 n2 c2 b k _ hb).mono ?_; rintro e w' ⟨rfl, rfl⟩)
      go_ret
      exact ⟨rfl, Below.refl _ _⟩
    · by_cases h2 : 4096 < n2
      · clear h
        go_enter Try.func9, Try.ntmps9
        go_wp2_with (go_at_call 30; refine (bytes30_yes a1 a2 n1 c1 n2 c2 b k _ hb).mono ?_; rintro e w' ⟨rfl, rfl⟩)
        go_ret
        exact ⟨rfl, Below.refl _ _⟩
      · by_cases h3 : k < 0
        · have hd2 : decide (k < 0) = true := decide_eq_true h3
          clear h
          go_enter Try.func9, Try.ntmps9
          go_wp2_with (go_at_call 30; refine (bytes30_yes a1 a2 n1 c1 n2 c2 b k _ hb).mono ?_; rintro e w' ⟨rfl, rfl⟩)
          go_ret
          exact ⟨rfl, Below.refl _ _⟩
        · have hd2 : decide (k < 0) = false := decide_eq_false h3
          have hd3 : decide ((n1 : Int) < k) = true := decide_eq_true (by omega)
          clear h
          go_enter Try.func9, Try.ntmps9
          go_wp2_with (go_at_call 30; refine (bytes30_yes a1 a2 n1 c1 n2 c2 b k _ hb).mono ?_; rintro e w' ⟨rfl, rfl⟩)
          go_ret
          exact ⟨rfl, Below.refl _ _⟩
  · clear h
    go_enter Try.func9, Try.ntmps9
    go_wp2_with (go_at_call 30; refine (bytes30_no a1 a2 n1 c1 n2 c2 b k _ (by omega)).mono ?_; rintro e w' ⟨rfl, rfl⟩)
    go_ret
    exact ⟨rfl, Below.refl _ _⟩

/-- A view of another length: the law says nothing. -/
theorem drain_ne (a1 : Option Addr) (x2 : Addr) (n1 c1 n2 c2 k : Nat) (b : Bool) (w : World) (h1 : n1 ≤ 4096) (h2 : n2 ≤ 4096) (hk : k ≤ n1) (hne : n2 ≠ n1) :
    Calls Try.prog 9 #[.slice a1 n1 c1, .slice (some x2) n2 c2, .bool b, .int .i64 k] w fun e w' => e = .returned (.bool true) ∧ Below w.heap.size w w' := by
  have hnil := fun w a n c => Lib.run_eql_slice_nil (P := Try.prog) w 22 25 a n c 0 0 Try.underlying22
  have hd2 : decide ((k : Int) < 0) = false := decide_eq_false (by omega)
  have hd3 : decide (n1 < k) = false := decide_eq_false (by omega)
  go_enter Try.func9, Try.ntmps9
  go_wp2_with (first | (go_at_call 30; refine (bytes30_yes a1 (some x2) n1 c1 n2 c2 b k _ (by omega)).mono ?_; rintro e w' ⟨rfl, rfl⟩) | (go_at_call 24; refine (sv_ne (some x2) a1 n2 c2 n1 c1 _ hne).mono ?_; rintro e w' ⟨rfl, rfl⟩))
  go_ret
  exact ⟨rfl, Below.refl _ _⟩

set_option maxRecDepth 100000 in
set_option maxHeartbeats 4000000 in
theorem drain_some (a1 : Option Addr) (x2 : Addr) (c1 c2 n k : Nat) (d s : Array Nat) (b : Bool) (w : World) (hn : n ≤ 4096) (hn0 : 0 < n) (hkn : k ≤ n) (h1 : IsFRow w a1 n c1 d) (h2 : IsFRow w (some x2) n c2 s) :
    Calls Try.prog 9 #[.slice a1 n c1, .slice (some x2) n c2, .bool b, .int .i64 k] w fun e w' => e = .returned (.bool true) ∧ Below w.heap.size w w' := by
  have hnil := fun w a n c => Lib.run_eql_slice_nil (P := Try.prog) w 22 25 a n c 0 0 Try.underlying22
  have hd2 : decide ((k : Int) < 0) = false := decide_eq_false (by omega)
  have hd3 : decide (n < k) = false := decide_eq_false (by omega)
  obtain ⟨b1, o1, rfl, hb1, hc1⟩ := frow_some h1 (by omega)
  obtain ⟨b2, o2, hx2, hb2, hc2⟩ := frow_some h2 (by omega)
  obtain rfl : x2 = ⟨b2, o2, none⟩ := by injection hx2
  have H1 : Hid _ := h1
  have H2 : Hid _ := h2
  have HC1 : Hid _ := hc1
  have HC2 : Hid _ := hc2
  clear h1 h2 hc1 hc2 hx2
  go_enter Try.func9, Try.ntmps9
  go_wp2_with (go_at_call 30; refine (bytes30_yes _ _ _ _ _ _ b k _ (by omega)).mono ?_; rintro e w' ⟨rfl, rfl⟩)
  refine (sv_pos b2 o2 c2 b1 o1 c1 n s d w (by omega) H2.out.1 H1.out.1 (.inr hb2) (.inr hb1) HC2.out HC1.out).mono ?_
  rintro e w1 ⟨v, rfl, hv, hbel⟩
  clear hd2 hd3
  rcases hv with ⟨rfl, hV⟩ | ⟨rfl, hV⟩
  case inr =>
    clear hV
    go_wp2
    go_ret
    exact ⟨rfl, hbel⟩
  case inl =>
    have HV : Hid (View n s d) := hV
    clear hV
    go_wp2_with fail
    refine (clone_some b1 o1 n c1 d w1 (by omega) (.inr (Nat.lt_of_lt_of_le hb1 hbel.size)) (fun j hj => (hbel.cell (show b1 < _ from hb1)).trans (HC1.out j hj))).mono ?_
    rintro e w2 ⟨rfl, hw2⟩
    have hz2 : Hid (w2.heap.size = w1.heap.size + 1) := by show _ = _; rw [hw2]; simp
    have hbel2 : Hid (Below w.heap.size w w2) := by show Below _ _ _; rw [hw2]; exact hbel.alloc hbel.size _
    have hq2 : Hid (Holds enc w2 w1.heap.size 0 d) := by show Holds _ _ _ _ _; rw [hw2]; exact holds_copy w1 d n H1.out.1
    have HW2 : Hid _ := hw2
    clear hw2
    go_wp2_with fail
    refine (clone_some b2 o2 n c2 s w2 (by omega) (.inr (Nat.lt_of_lt_of_le hb2 hbel2.out.size)) (fun j hj => (hbel2.out.cell (show b2 < _ from hb2)).trans (HC2.out j hj))).mono ?_
    rintro e w3 ⟨rfl, hw3⟩
    rw [hz2.out]
    have hz3 : Hid (w3.heap.size = w1.heap.size + 2) := by show _ = _; rw [hw3]; simp [hz2.out]
    have hq3 : Hid (Holds enc w3 w1.heap.size 0 d) := by show Holds _ _ _ _ _; rw [hw3]; exact holds_alloc _ (by rw [hz2.out]; omega) hq2.out
    have HW3 : Hid _ := hw3
    clear hw3
    go_wp2_with fail
    refine (clone_some w1.heap.size 0 n n d w3 (by omega) (.inr (by rw [hz3.out]; omega)) (fun j hj => (hq3.out j (by rw [H1.out.1]; exact hj)).1)).mono ?_
    rintro e w4 ⟨rfl, hw4⟩
    rw [hz3.out]
    have hz4 : Hid (w4.heap.size = w1.heap.size + 3) := by show _ = _; rw [hw4]; simp [hz3.out]
    have HW4 : Hid _ := hw4
    clear hw4
    go_wp2_with fail
    refine (newq_any _ _ _ _ _ _ _ w4).mono ?_
    rintro e w5 ⟨rfl, hw5⟩
    rw [hz4.out]
    obtain ⟨hq5, hv5⟩ : Hid (QSt w w5 (w1.heap.size + 3) w1.heap.size (w1.heap.size + 2) n 0 d b) ∧ Hid (VSt w w5 (w1.heap.size + 3) w1.heap.size (w1.heap.size + 2) (w1.heap.size + 1) n 0 d s) := by
      have hmade := made_some w w1 hbel n d s H1.out.1 H2.out.1 b HV.out
      rw [← HW2.out, ← HW3.out, ← HW4.out, ← hw5] at hmade
      exact ⟨hmade.1, hmade.2⟩
    clear hw5 HW2 HW3 HW4 hz2 hz3 hz4 hq2 hq3 hbel2
    generalize w1.heap.size + 3 = P at *
    generalize w1.heap.size + 2 = O at *
    generalize w1.heap.size + 1 = S at *
    generalize w1.heap.size = Q at *
    go_wp2
    go_loopw [12] (fun v wr => ∃ (i : Nat) (si : Array Nat), v = .int .i64 i ∧ i ≤ k ∧ QSt w wr P Q O n i d b ∧ VSt w wr P Q O S n i d si) (fun v _ => k - (intOf v).toNat)
    case atStart => exact ⟨0, s, rfl, Nat.zero_le _, hq5.out, hv5.out⟩
    case round =>
      obtain ⟨i, si, rfl, hik, hq6, hv6⟩ := hrel
      clear hq5 hv5
      obtain ⟨oq, hoq, k0⟩ := hq6.c0
      have k1 := hv6.c1
      have k2 := hq6.c2
      have HQ6 : Hid _ := hq6
      have HV6 : Hid _ := hv6
      have HOQ : Hid _ := hoq
      clear hq6 hv6 hoq
      obtain ⟨m, hm⟩ : ∃ m, n - i = m := ⟨_, rfl⟩
      rw [hm] at k0 k1
      have hm1 : n ≤ m + i := by omega
      have hm2 : m + i ≤ n := by omega
      have HM : Hid _ := hm
      clear hm
      by_cases hlt : i < k
      · obtain ⟨x, hx⟩ : ∃ x, d[i]! = x := ⟨_, rfl⟩
        have g1 : wr.cell? ⟨Q, oq, none⟩ = some (.float .f64 x) := by
          rw [← hx, HOQ.out (by omega)]
          exact HQ6.out.qs i (by omega)
        have g2 : wr.cell? ⟨O, i, none⟩ = some (.float .f64 x) := by
          rw [← hx]
          exact HQ6.out.os i (by omega)
        have cb := sameClass_any x x
        rw [same_self] at cb
        have CB : Hid _ := cb
        clear cb hx
        have hdec : (n : Int) - (i : Int) = (m : Int) := by omega
        go_wp2_with fail
        refine (queueOf_any P (some ⟨Q, oq, none⟩) m m wr k0).mono ?_
        rintro e w' ⟨rfl, rfl⟩
        clear k0 k1 k2
        go_wp2_with fail
        go_quiet ((go_at_call 14; exact Calls.quiet_of_same (calls_flip (CB.out _))))
        go_wp2_with fail
        refine (drop_some_q (HQ6.out.drewN nq) (HV6.out.drewN nq) (by omega) H1.out.1 (by omega)).mono ?_
        rintro e w7 ⟨rfl, hq7, s7, hv7⟩
        have HQ7 : Hid _ := hq7
        have HV7 : Hid _ := hv7
        clear hq7 hv7 hdec g1 g2
        go_wp2
        go_roundw
        case rel => exact ⟨i + 1, s7, by go_num, by omega, HQ7.out, HV7.out⟩
        case measure => simp [intOf]; omega
      · obtain rfl : k = i := by omega
        go_wp2_with fail
        refine (queueOf_any P (some ⟨Q, oq, none⟩) m m wr k0).mono ?_
        rintro e w' ⟨rfl, rfl⟩
        go_wp2_with fail
        refine (sortedOf_any P (some ⟨S, 0, none⟩) m n wr k1).mono ?_
        rintro e w' ⟨rfl, rfl⟩
        go_wp2_with fail
        refine (askedOf_any P b wr k2).mono ?_
        rintro e w' ⟨rfl, rfl⟩
        clear k0 k1 k2
        have hdec : (n : Int) - (k : Int) = (m : Int) := by omega
        go_wp2
        obtain ⟨w6, hw6⟩ : ∃ w6, wr = w6 := ⟨_, rfl⟩
        rw [hw6] at HQ6 HV6 ⊢
        clear hw6 hdec
        go_loopw [16] (fun v wr => ∃ j q : Nat, v = .int .i64 j ∧ j ≤ m ∧ wr = w6.drewN q) (fun v _ => m - (intOf v).toNat)
        case atStart => exact ⟨0, 0, rfl, Nat.zero_le _, rfl⟩
        case round =>
          obtain ⟨j, q, rfl, hj, hwr⟩ := hrel
          have HWR : Hid _ := hwr
          by_cases hlt2 : j < m
          · obtain ⟨x, hx⟩ : ∃ x, d[k + j]! = x := ⟨_, rfl⟩
            have g1 : wr.cell? ⟨Q, oq + j, none⟩ = some (.float .f64 x) := by
              rw [hwr, ← hx, HOQ.out (by omega)]
              exact HQ6.out.qs (k + j) (by omega)
            have g2 : wr.cell? ⟨O, k + j, none⟩ = some (.float .f64 x) := by
              rw [hwr, ← hx]
              exact HQ6.out.os (k + j) (by omega)
            have cb := sameClass_any x x
            rw [same_self] at cb
            have CB : Hid _ := cb
            clear cb hx hwr
            go_wp2_with fail
            go_quiet ((go_at_call 14; exact Calls.quiet_of_same (calls_flip (CB.out _))))
            go_wp2
            go_roundw
            case rel => exact ⟨j + 1, q + nq, by go_num, by omega, by rw [HWR.out]; simp⟩
            case measure => simp [intOf]; omega
          · clear hwr
            have hcS : Hid (∀ j, j < m → wr.cell? ⟨S, 0 + j, none⟩ = some (.float .f64 si[j]!)) := fun j hj => by
              rw [HWR.out]
              exact (HV6.out.hold j (by rw [HV6.out.view.ss, HM.out]; exact hj)).1
            have hcQ : Hid (∀ j, j < m → wr.cell? ⟨Q, oq + j, none⟩ = some (.float .f64 (dr d k)[j]!)) := fun j hj => by
              rw [HWR.out, HOQ.out (by omega), dr_get]
              exact HQ6.out.qs (k + j) (by omega)
            have hyes : Hid (View m si (dr d k)) := by show View _ _ _; rw [← HM.out]; exact HV6.out.view
            have hbr : Hid (Below w.heap.size w wr) := by show Below _ _ _; rw [HWR.out]; exact bel_drewN HQ6.out.bel q
            have hlS : Hid (m = 0 ∨ S < wr.heap.size) := by
              rcases Nat.eq_zero_or_pos m with h | h
              · exact .inl h
              · exact .inr (World.block_lt_of_cell? _ _ (hcS.out 0 h))
            have hlQ : Hid (m = 0 ∨ Q < wr.heap.size) := by
              rcases Nat.eq_zero_or_pos m with h | h
              · exact .inl h
              · exact .inr (World.block_lt_of_cell? _ _ (hcQ.out 0 h))
            have hsS : Hid (si.size = m) := HV6.out.view.ss.trans HM.out
            have hsQ : Hid ((dr d k).size = m) := (dr_size H1.out.1 _).trans HM.out
            clear HWR HV6 HQ6 HOQ
            go_wp2_with fail
            refine (sv_pos S 0 n Q oq m m si (dr d k) wr (by omega) hsS.out hsQ.out hlS.out hlQ.out hcS.out hcQ.out).mono ?_
            rintro e w7 ⟨v, rfl, hv, hbel7⟩
            obtain rfl : v = .bool true := by
              rcases hv with ⟨h, _⟩ | ⟨_, h⟩
              · exact h
              · exact absurd hyes.out h
            clear hv
            go_wp2
            go_ret
            exact ⟨rfl, hbr.out.trans (hbel7.mono hbr.out.size)⟩

set_option maxRecDepth 100000 in
set_option maxHeartbeats 4000000 in
theorem drain_nil (a1 : Option Addr) (c1 n k : Nat) (d : Array Nat) (b : Bool) (w : World) (hn : n ≤ 4096) (hn0 : 0 < n) (hkn : k ≤ n) (h1 : IsFRow w a1 n c1 d) :
    Calls Try.prog 9 #[.slice a1 n c1, .slice none 0 0, .bool b, .int .i64 k] w fun e w' => e = .returned (.bool true) ∧ Below w.heap.size w w' := by
  have hnil := fun w a n c => Lib.run_eql_slice_nil (P := Try.prog) w 22 25 a n c 0 0 Try.underlying22
  have hd2 : decide ((k : Int) < 0) = false := decide_eq_false (by omega)
  have hd3 : decide (n < k) = false := decide_eq_false (by omega)
  obtain ⟨b1, o1, rfl, hb1, hc1⟩ := frow_some h1 (by omega)
  have H1 : Hid _ := h1
  have HC1 : Hid _ := hc1
  clear h1 hc1
  go_enter Try.func9, Try.ntmps9
  go_wp2_with (go_at_call 30; refine (bytes30_yes _ _ _ _ _ _ b k _ (by omega)).mono ?_; rintro e w' ⟨rfl, rfl⟩)
  clear hd2 hd3
  refine (clone_some b1 o1 n c1 d w (by omega) (.inr hb1) HC1.out).mono ?_
  rintro e w2 ⟨rfl, hw2⟩
  have hz2 : Hid (w2.heap.size = w.heap.size + 1) := by show _ = _; rw [hw2]; simp
  have hq2 : Hid (Holds enc w2 w.heap.size 0 d) := by show Holds _ _ _ _ _; rw [hw2]; exact holds_copy w d n H1.out.1
  have HW2 : Hid _ := hw2
  clear hw2
  go_wp2_with fail
  refine (clone_nil w2).mono ?_
  rintro e w' ⟨rfl, rfl⟩
  go_wp2_with fail
  refine (clone_some w.heap.size 0 n n d w2 (by omega) (.inr (by rw [hz2.out]; omega)) (fun j hj => (hq2.out j (by rw [H1.out.1]; exact hj)).1)).mono ?_
  rintro e w4 ⟨rfl, hw4⟩
  rw [hz2.out]
  have hz4 : Hid (w4.heap.size = w.heap.size + 2) := by show _ = _; rw [hw4]; simp [hz2.out]
  have HW4 : Hid _ := hw4
  clear hw4
  go_wp2_with fail
  refine (newq_any _ _ _ _ _ _ _ w4).mono ?_
  rintro e w5 ⟨rfl, hw5⟩
  rw [hz4.out]
  obtain ⟨Q, hQ⟩ : ∃ Q, w.heap.size = Q := ⟨_, rfl⟩
  obtain ⟨hq5, hv5⟩ : Hid (QSt w w5 (Q + 2) Q (Q + 1) n 0 d b) ∧ Hid (w5.cell? ⟨Q + 2, 1, none⟩ = some (.slice none 0 0)) := by
    have hmade := made_nil w w (Below.refl _ _) n d H1.out.1 b
    rw [← HW2.out, ← HW4.out, ← hw5] at hmade
    rw [hQ] at hmade
    exact ⟨hmade.1, hmade.2⟩
  clear hw5 HW2 HW4 hz2 hz4 hq2
  rw [hQ]
  clear hQ
  generalize Q + 2 = P at *
  generalize Q + 1 = O at *
  go_wp2
  go_loopw [12] (fun v wr => ∃ (i : Nat), v = .int .i64 i ∧ i ≤ k ∧ QSt w wr P Q O n i d b ∧ wr.cell? ⟨P, 1, none⟩ = some (.slice none 0 0)) (fun v _ => k - (intOf v).toNat)
  case atStart => exact ⟨0, rfl, Nat.zero_le _, hq5.out, hv5.out⟩
  case round =>
    obtain ⟨i, rfl, hik, hq6, k1⟩ := hrel
    clear hq5 hv5
    obtain ⟨oq, hoq, k0⟩ := hq6.c0
    have k2 := hq6.c2
    have HQ6 : Hid _ := hq6
    have HOQ : Hid _ := hoq
    clear hq6 hoq
    obtain ⟨m, hm⟩ : ∃ m, n - i = m := ⟨_, rfl⟩
    rw [hm] at k0
    have hm1 : n ≤ m + i := by omega
    have hm2 : m + i ≤ n := by omega
    clear hm
    by_cases hlt : i < k
    · obtain ⟨x, hx⟩ : ∃ x, d[i]! = x := ⟨_, rfl⟩
      have g1 : wr.cell? ⟨Q, oq, none⟩ = some (.float .f64 x) := by
        rw [← hx, HOQ.out (by omega)]
        exact HQ6.out.qs i (by omega)
      have g2 : wr.cell? ⟨O, i, none⟩ = some (.float .f64 x) := by
        rw [← hx]
        exact HQ6.out.os i (by omega)
      have cb := sameClass_any x x
      rw [same_self] at cb
      have CB : Hid _ := cb
      have K1 : Hid _ := k1
      clear cb hx
      have hdec : (n : Int) - (i : Int) = (m : Int) := by omega
      go_wp2_with fail
      refine (queueOf_any P (some ⟨Q, oq, none⟩) m m wr k0).mono ?_
      rintro e w' ⟨rfl, rfl⟩
      clear k0 k1 k2
      go_wp2_with fail
      go_quiet ((go_at_call 14; exact Calls.quiet_of_same (calls_flip (CB.out _))))
      go_wp2_with fail
      refine (drop_nil_q (HQ6.out.drewN nq) (by omega) (by omega) K1.out).mono ?_
      rintro e w7 ⟨rfl, hq7, hv7⟩
      have HQ7 : Hid _ := hq7
      have HV7 : Hid _ := hv7
      clear hq7 hv7 hdec g1 g2
      go_wp2
      go_roundw
      case rel => exact ⟨i + 1, by go_num, by omega, HQ7.out, HV7.out⟩
      case measure => simp [intOf]; omega
    · obtain rfl : k = i := by omega
      go_wp2_with fail
      refine (queueOf_any P (some ⟨Q, oq, none⟩) m m wr k0).mono ?_
      rintro e w' ⟨rfl, rfl⟩
      go_wp2_with fail
      refine (sortedOf_any P none 0 0 wr k1).mono ?_
      rintro e w' ⟨rfl, rfl⟩
      go_wp2_with fail
      refine (askedOf_any P b wr k2).mono ?_
      rintro e w' ⟨rfl, rfl⟩
      clear k0 k1 k2
      have hdec : (n : Int) - (k : Int) = (m : Int) := by omega
      go_wp2
      obtain ⟨w6, hw6⟩ : ∃ w6, wr = w6 := ⟨_, rfl⟩
      rw [hw6] at HQ6 ⊢
      clear hw6 hdec
      go_loopw [16] (fun v wr => ∃ j q : Nat, v = .int .i64 j ∧ j ≤ m ∧ wr = w6.drewN q) (fun v _ => m - (intOf v).toNat)
      case atStart => exact ⟨0, 0, rfl, Nat.zero_le _, rfl⟩
      case round =>
        obtain ⟨j, q, rfl, hj, hwr⟩ := hrel
        have HWR : Hid _ := hwr
        by_cases hlt2 : j < m
        · obtain ⟨x, hx⟩ : ∃ x, d[k + j]! = x := ⟨_, rfl⟩
          have g1 : wr.cell? ⟨Q, oq + j, none⟩ = some (.float .f64 x) := by
            rw [hwr, ← hx, HOQ.out (by omega)]
            exact HQ6.out.qs (k + j) (by omega)
          have g2 : wr.cell? ⟨O, k + j, none⟩ = some (.float .f64 x) := by
            rw [hwr, ← hx]
            exact HQ6.out.os (k + j) (by omega)
          have cb := sameClass_any x x
          rw [same_self] at cb
          have CB : Hid _ := cb
          clear cb hx hwr
          go_wp2_with fail
          go_quiet ((go_at_call 14; exact Calls.quiet_of_same (calls_flip (CB.out _))))
          go_wp2
          go_roundw
          case rel => exact ⟨j + 1, q + nq, by go_num, by omega, by rw [HWR.out]; simp⟩
          case measure => simp [intOf]; omega
        · clear hwr
          go_wp2
          go_ret
          exact ⟨rfl, by rw [HWR.out]; exact bel_drewN HQ6.out.bel q⟩

/-- An empty queue: no drop. -/
theorem clone_zero (a : Option Addr) (cap : Nat) (w : World) : Calls Try.prog 11 #[.slice a 0 cap] w fun e w' => ∃ (a' : Option Addr), e = .returned (.slice a' 0 0) ∧ a'.isNone = a.isNone ∧ Below w.heap.size w w' := by
  cases a with
  | none =>
    have hnil := fun w a n c => Lib.run_eql_slice_nil (P := Try.prog) w 22 25 a n c 0 0 Try.underlying22
    go_enter Try.func11, Try.ntmps11
    go_wp2
    go_ret
    exact ⟨none, rfl, rfl, Below.refl _ _⟩
  | some x =>
    refine (clone_empty x cap #[] w).mono ?_
    rintro e w' ⟨rfl, rfl⟩
    exact ⟨_, rfl, rfl, (Below.refl _ _).alloc (Nat.le_refl _) _⟩

set_option maxRecDepth 100000 in
set_option maxHeartbeats 2000000 in
theorem drain_zero_some (a1 : Option Addr) (x2 : Addr) (c1 c2 : Nat) (b : Bool) (w : World) :
    Calls Try.prog 9 #[.slice a1 0 c1, .slice (some x2) 0 c2, .bool b, .int .i64 0] w fun e w' => e = .returned (.bool true) ∧ Below w.heap.size w w' := by
  have hnil := fun w a n c => Lib.run_eql_slice_nil (P := Try.prog) w 22 25 a n c 0 0 Try.underlying22
  go_enter Try.func9, Try.ntmps9
  go_wp2_with (go_at_call 30; refine (bytes30_yes _ _ _ _ _ _ b 0 _ (by omega)).mono ?_; rintro e w' ⟨rfl, rfl⟩)
  refine (sv_zero (some x2) a1 c2 c1 w).mono ?_
  rintro e w1 ⟨rfl, hb1⟩
  go_wp2_with fail
  refine (clone_zero a1 c1 w1).mono ?_
  rintro e w2 ⟨q', rfl, _, hb2⟩
  have hbb2 : Below w.heap.size w w2 := hb1.trans (hb2.mono hb1.size)
  clear hb1 hb2
  go_wp2_with fail
  refine (clone_zero (some x2) c2 w2).mono ?_
  rintro e w3 ⟨s', rfl, hs', hb3⟩
  have hbb3 : Below w.heap.size w w3 := hbb2.trans (hb3.mono hbb2.size)
  clear hbb2 hb3
  obtain ⟨y, rfl⟩ : ∃ y, s' = some y := by
    cases s' with
    | none => cases hs'
    | some y => exact ⟨y, rfl⟩
  clear hs'
  go_wp2_with fail
  refine (clone_zero q' 0 w3).mono ?_
  rintro e w4 ⟨o', rfl, _, hb4⟩
  have hbb4 : Below w.heap.size w w4 := hbb3.trans (hb4.mono hbb3.size)
  clear hbb3 hb4
  go_wp2_with fail
  refine (newq_any _ _ _ _ _ _ _ w4).mono ?_
  rintro e w5 ⟨rfl, hw5⟩
  obtain ⟨P, hP⟩ : ∃ P, w4.heap.size = P := ⟨_, rfl⟩
  have k0 : w5.cell? ⟨P, 0, none⟩ = some (.slice q' 0 0) := by
    rw [hw5, World.cell?_alloc_at _ _ _ _ hP.symm]; rfl
  have k1 : w5.cell? ⟨P, 1, none⟩ = some (.slice (some y) 0 0) := by
    rw [hw5, World.cell?_alloc_at _ _ _ _ hP.symm]; rfl
  have k2 : w5.cell? ⟨P, 2, none⟩ = some (.bool b) := by
    rw [hw5, World.cell?_alloc_at _ _ _ _ hP.symm]; rfl
  have hbb5 : Below w.heap.size w w5 := by rw [hw5]; exact hbb4.alloc hbb4.size _
  clear hw5 hbb4
  rw [hP]
  clear hP
  go_wp2
  go_loop [12] (fun v => v = .int .i64 0) (fun _ => 0)
  case atStart => rfl
  case round =>
    subst hrel
    go_wp2_with fail
    refine (queueOf_any P q' 0 0 w5 k0).mono ?_
    rintro e w' ⟨rfl, rfl⟩
    go_wp2_with fail
    refine (sortedOf_any P (some y) 0 0 w5 k1).mono ?_
    rintro e w' ⟨rfl, rfl⟩
    go_wp2_with fail
    refine (askedOf_any P b w5 k2).mono ?_
    rintro e w' ⟨rfl, rfl⟩
    clear k0 k1 k2
    go_wp2
    go_loop [16] (fun v => v = .int .i64 0) (fun _ => 0)
    case atStart => rfl
    case round =>
      subst hrel
      go_wp2_with fail
      refine (sv_zero (some y) q' 0 0 w5).mono ?_
      rintro e w6 ⟨rfl, hb6⟩
      go_wp2
      go_ret
      exact ⟨rfl, hbb5.trans (hb6.mono hbb5.size)⟩

set_option maxRecDepth 100000 in
set_option maxHeartbeats 2000000 in
theorem drain_zero_nil (a1 : Option Addr) (c1 c2 : Nat) (b : Bool) (w : World) :
    Calls Try.prog 9 #[.slice a1 0 c1, .slice none 0 c2, .bool b, .int .i64 0] w fun e w' => e = .returned (.bool true) ∧ Below w.heap.size w w' := by
  have hnil := fun w a n c => Lib.run_eql_slice_nil (P := Try.prog) w 22 25 a n c 0 0 Try.underlying22
  go_enter Try.func9, Try.ntmps9
  go_wp2_with (go_at_call 30; refine (bytes30_yes _ _ _ _ _ _ b 0 _ (by omega)).mono ?_; rintro e w' ⟨rfl, rfl⟩)
  have hb1 : Below w.heap.size w w := Below.refl _ _
  refine (clone_zero a1 c1 w).mono ?_
  rintro e w2 ⟨q', rfl, _, hb2⟩
  have hbb2 : Below w.heap.size w w2 := hb1.trans (hb2.mono hb1.size)
  clear hb1 hb2
  go_wp2_with fail
  refine (clone_zero none c2 w2).mono ?_
  rintro e w3 ⟨s', rfl, hs', hb3⟩
  have hbb3 : Below w.heap.size w w3 := hbb2.trans (hb3.mono hbb2.size)
  clear hbb2 hb3
  obtain rfl : s' = none := by
    cases s' with
    | none => rfl
    | some y => cases hs'
  clear hs'
  go_wp2_with fail
  refine (clone_zero q' 0 w3).mono ?_
  rintro e w4 ⟨o', rfl, _, hb4⟩
  have hbb4 : Below w.heap.size w w4 := hbb3.trans (hb4.mono hbb3.size)
  clear hbb3 hb4
  go_wp2_with fail
  refine (newq_any _ _ _ _ _ _ _ w4).mono ?_
  rintro e w5 ⟨rfl, hw5⟩
  obtain ⟨P, hP⟩ : ∃ P, w4.heap.size = P := ⟨_, rfl⟩
  have k0 : w5.cell? ⟨P, 0, none⟩ = some (.slice q' 0 0) := by
    rw [hw5, World.cell?_alloc_at _ _ _ _ hP.symm]; rfl
  have k1 : w5.cell? ⟨P, 1, none⟩ = some (.slice none 0 0) := by
    rw [hw5, World.cell?_alloc_at _ _ _ _ hP.symm]; rfl
  have k2 : w5.cell? ⟨P, 2, none⟩ = some (.bool b) := by
    rw [hw5, World.cell?_alloc_at _ _ _ _ hP.symm]; rfl
  have hbb5 : Below w.heap.size w w5 := by rw [hw5]; exact hbb4.alloc hbb4.size _
  clear hw5 hbb4
  rw [hP]
  clear hP
  go_wp2
  go_loop [12] (fun v => v = .int .i64 0) (fun _ => 0)
  case atStart => rfl
  case round =>
    subst hrel
    go_wp2_with fail
    refine (queueOf_any P q' 0 0 w5 k0).mono ?_
    rintro e w' ⟨rfl, rfl⟩
    go_wp2_with fail
    refine (sortedOf_any P none 0 0 w5 k1).mono ?_
    rintro e w' ⟨rfl, rfl⟩
    go_wp2_with fail
    refine (askedOf_any P b w5 k2).mono ?_
    rintro e w' ⟨rfl, rfl⟩
    clear k0 k1 k2
    go_wp2
    go_loop [16] (fun v => v = .int .i64 0) (fun _ => 0)
    case atStart => rfl
    case round =>
      subst hrel
      go_wp2
      go_ret
      exact ⟨rfl, hbb5⟩
end Go.Proofs.Qxb6602921a
