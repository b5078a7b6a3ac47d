/-
  The walk of the law FnCursorBytesSplitsUnread (3).
-/
import Derived.Test.Qxb6603576aCur
namespace Go.Proofs.Qxb6603576a
open Go.RowKit Go.Sort

theorem bytes5_yes (a : Option Addr) (l c : Nat) (off n : Int) (b : Bool) (w : World) (hn : l ≤ 1048576) : Calls Try.prog 5 #[.slice a l c, .int .i64 off, .bool b, .int .i64 n] w fun e w' => e = .returned (.bool true) ∧ w = w' := by
  go_enter Try.func5, Try.ntmps5
  go_wp2
  go_ret
  exact ⟨rfl, rfl⟩
theorem bytes5_no (a : Option Addr) (l c : Nat) (off n : Int) (b : Bool) (w : World) (hn : 1048576 < l) : Calls Try.prog 5 #[.slice a l c, .int .i64 off, .bool b, .int .i64 n] w fun e w' => e = .returned (.bool false) ∧ w = w' := by
  go_enter Try.func5, Try.ntmps5
  go_wp2
  go_ret
  exact ⟨rfl, rfl⟩

theorem split_out (a : Option Addr) (l c : Nat) (off n : Int) (b : Bool) (w : World) (h : 1048576 < l ∨ n < 0) :
    Calls Try.prog 3 #[.slice a l c, .int .i64 off, .bool b, .int .i64 n] w fun e w' => e = .returned (.bool true) ∧ Below w.heap.size w w' := by
  by_cases hl : 1048576 < l
  · go_enter Try.func3, Try.ntmps3
    go_wp2_with (go_at_call 5; refine (bytes5_no a l c off n b _ hl).mono ?_; rintro e w' ⟨rfl, rfl⟩)
    go_ret
    exact ⟨rfl, Below.refl _ _⟩
  · have hd : decide (n < 0) = true := decide_eq_true (by omega)
    clear h
    go_enter Try.func3, Try.ntmps3
    go_wp2_with (go_at_call 5; refine (bytes5_yes a l c off n b _ (by omega)).mono ?_; rintro e w' ⟨rfl, rfl⟩)
    go_ret
    exact ⟨rfl, Below.refl _ _⟩

set_option maxRecDepth 100000 in
set_option maxHeartbeats 2000000 in
theorem split_nil (off : Int) (n : Nat) (b : Bool) (w : World) (hoff : wrap64 off = off) :
    Calls Try.prog 3 #[.slice none 0 0, .int .i64 off, .bool b, .int .i64 n] w fun e w' => e = .returned (.bool true) ∧ Below w.heap.size w w' := by
  have hnil := fun w a n c => Lib.run_eql_slice_nil (P := Try.prog) w 22 5 a n c 0 0 Try.underlying22
  have hd : decide ((n : Int) < 0) = false := decide_eq_false (by omega)
  have HO : Hid _ := hoff
  clear hoff
  go_enter Try.func3, Try.ntmps3
  go_wp2_with (first | (go_at_call 5; refine (bytes5_yes _ _ _ _ _ _ _ (by omega)).mono ?_; rintro e w' ⟨rfl, rfl⟩) | (go_at_call 6; refine (clone_nil _).mono ?_; rintro e w' ⟨rfl, rfl⟩))
  refine (newcur_any none 0 0 off b w).mono ?_
  rintro e w1 ⟨rfl, hw1⟩
  have hc1 : CSt w w1 w.heap.size none 0 0 off b := by rw [hw1]; exact made_cur w w (Below.refl _ _) none 0 0 off b
  clear hw1
  obtain ⟨P, hP⟩ : ∃ P, w.heap.size = P := ⟨_, rfl⟩
  rw [hP] at hc1 ⊢
  clear hP
  by_cases h0 : 0 < n
  · go_wp2_with fail
    refine (zzbytes_of P n _ w1 _ (bytes_short hc1 n h0)).mono ?_
    rintro e w2 ⟨rfl, hc2, _⟩
    go_wp2_with fail
    refine (state_any hc2).mono ?_
    rintro e w3 ⟨rfl, q, hw3⟩
    have hb3 : Below w.heap.size w w3 := by rw [hw3]; exact bel_drewN hc2.bel q
    clear hw3 hc2 hc1
    have hd0 : decide (0 < n) = true := decide_eq_true h0
    have hd1 : decide ((0 : Int) < (n : Int)) = true := decide_eq_true (by omega)
    go_wp2
    go_ret
    exact ⟨rfl, hb3⟩
  · obtain rfl : n = 0 := by omega
    go_wp2_with fail
    refine (zzbytes_of P 0 _ w1 _ (bytes_nil hc1 HO.out)).mono ?_
    rintro e w2 ⟨rfl, hc2, _⟩
    go_wp2_with fail
    refine (state_any hc2).mono ?_
    rintro e w3 ⟨rfl, q, hw3⟩
    have hb3 : Below w.heap.size w w3 := by rw [hw3]; exact bel_drewN hc2.bel q
    clear hw3 hc2 hc1
    go_wp2
    go_loop [14] (fun v => v = .int .i64 0) (fun _ => 0)
    case atStart => rfl
    case round =>
      subst hrel
      go_wp2
      go_loop [15] (fun v => v = .int .i64 0) (fun _ => 0)
      case atStart => rfl
      case round =>
        subst hrel
        go_wp2
        go_ret
        exact ⟨rfl, hb3⟩

theorem off_back (off : Int) (n : Nat) (hn : n ≤ 1048576) : wrap64 (wrap64 (off + n) - off) = n := by
  unfold wrap64
  omega

set_option maxRecDepth 100000 in
set_option maxHeartbeats 4000000 in
theorem split_some (x : Addr) (l c : Nat) (F : Nat → Int) (off : Int) (n : Nat) (b : Bool) (w : World) (hl : l ≤ 1048576) (hin : ∀ i, i < l → w.cell? (x.add i) = some (.int .u8 (F i))) :
    Calls Try.prog 3 #[.slice (some x) l c, .int .i64 off, .bool b, .int .i64 n] w fun e w' => e = .returned (.bool true) ∧ Below w.heap.size w w' := by
  have hnil := fun w a n c => Lib.run_eql_slice_nil (P := Try.prog) w 22 5 a n c 0 0 Try.underlying22
  have hd : decide ((n : Int) < 0) = false := decide_eq_false (by omega)
  have HIN : Hid _ := hin
  clear hin
  go_enter Try.func3, Try.ntmps3
  go_wp2_with (go_at_call 5; refine (bytes5_yes _ _ _ _ _ _ _ (by omega)).mono ?_; rintro e w' ⟨rfl, rfl⟩)
  clear hd
  refine (clone_in x l c F w hl HIN.out).mono ?_
  rintro e w1 ⟨rfl, hw1⟩
  have hz1 : Hid (w1.heap.size = w.heap.size + 1) := by show _ = _; rw [hw1]; simp
  have hb1 : Below w.heap.size w w1 := by rw [hw1]; exact (Below.refl _ _).alloc (Nat.le_refl _) _
  have hr1 : Row w1 w.heap.size l F := by rw [hw1]; exact row_copy w F l
  clear hw1
  have HR1 : Hid (Row w1 w.heap.size l F) := hr1
  clear hr1
  go_wp2_with fail
  refine (clone_some w.heap.size 0 l l F w1 hl (.inr (by rw [hz1.out]; omega)) (fun j hj => by rw [Nat.zero_add]; exact HR1.out j hj)).mono ?_
  rintro e w2 ⟨rfl, hw2⟩
  have hz2 : Hid (w2.heap.size = w.heap.size + 2) := by show _ = _; rw [hw2]; simp [hz1.out]
  have hb2 : Below w.heap.size w w2 := by rw [hw2]; exact hb1.alloc hb1.size _
  have HRA : Hid (Row w2 w.heap.size l F) := by show Row _ _ _ _; rw [hw2]; exact HR1.out.alloc (by rw [hz1.out]; omega) _
  have HRB : Hid (Row w2 (w.heap.size + 1) l F) := by show Row _ _ _ _; rw [hw2, ← hz1.out]; exact row_copy w1 F l
  rw [hz1.out]
  clear hw2 hb1 HR1 hz1
  go_wp2_with fail
  refine (newcur_any _ _ _ off b w2).mono ?_
  rintro e w3 ⟨rfl, hw3⟩
  rw [hz2.out]
  have hc3 : CSt w w3 (w.heap.size + 2) (some ⟨w.heap.size + 1, 0, none⟩) l l off b := by rw [hw3, ← hz2.out]; exact made_cur w w2 hb2 _ l l off b
  have HRA3 : Hid (Row w3 w.heap.size l F) := by show Row _ _ _ _; rw [hw3]; exact HRA.out.alloc (by rw [hz2.out]; omega) _
  have HRB3 : Hid (Row w3 (w.heap.size + 1) l F) := by show Row _ _ _ _; rw [hw3]; exact HRB.out.alloc (by rw [hz2.out]; omega) _
  clear hw3 hb2 HRA HRB hz2
  have hne1 : Hid (w.heap.size ≠ w.heap.size + 2) := by show _ ≠ _; omega
  have hne2 : Hid (w.heap.size + 1 ≠ w.heap.size + 2) := by show _ ≠ _; omega
  obtain ⟨P, hP⟩ : ∃ P, w.heap.size + 2 = P := ⟨_, rfl⟩
  obtain ⟨B, hB⟩ : ∃ B, w.heap.size + 1 = B := ⟨_, rfl⟩
  rw [hP] at hc3 hne1 hne2 ⊢
  rw [hB] at hc3 HRB3 hne2 ⊢
  clear hP hB
  by_cases hs : l < n
  · have hd0 : decide (l < n) = true := decide_eq_true hs
    go_wp2_with fail
    refine (zzbytes_of P n _ w3 _ (bytes_short hc3 n hs)).mono ?_
    rintro e w4 ⟨rfl, hc4, _⟩
    go_wp2_with fail
    refine (state_any hc4).mono ?_
    rintro e w5 ⟨rfl, q, hw5⟩
    have hb5 : Below w.heap.size w w5 := by rw [hw5]; exact bel_drewN hc4.bel q
    clear hw5 hc4 hc3
    go_wp2
    go_ret
    exact ⟨rfl, hb5⟩
  · have hd0 : decide (l < n) = false := decide_eq_false hs
    go_wp2_with fail
    refine (zzbytes_of P n _ w3 _ (bytes_ok hc3 n (by omega) (Nat.le_refl _))).mono ?_
    rintro e w4 ⟨rfl, hc4, hfr⟩
    obtain ⟨oo, hoo⟩ : ∃ oo, (if l = n then 0 else 0 + n) = oo := ⟨_, rfl⟩
    rw [hoo] at hc4
    have HOO : Hid (n < l → oo = n) := fun h => by rw [← hoo, if_neg (by omega), Nat.zero_add]
    clear hoo
    obtain ⟨m, hm⟩ : ∃ m, l - n = m := ⟨_, rfl⟩
    rw [hm] at hc4
    have hm1 : l ≤ n + m := by omega
    have hm2 : n + m ≤ l := by omega
    clear hm
    have HRA4 : Hid (Row w4 w.heap.size l F) := HRA3.out.fr hfr hne1.out
    have HRB4 : Hid (Row w4 B l F) := HRB3.out.fr hfr hne2.out
    clear hfr HRA3 HRB3 hc3 hne1 hne2
    go_wp2_with fail
    refine (state_any hc4).mono ?_
    rintro e w5 ⟨rfl, q, hw5⟩
    have hb5 : Below w.heap.size w w5 := by rw [hw5]; exact bel_drewN hc4.bel q
    have HRA5 : Hid (Row w5 w.heap.size l F) := by show Row _ _ _ _; rw [hw5]; exact HRA4.out.drewN q
    have HRB5 : Hid (Row w5 B l F) := by show Row _ _ _ _; rw [hw5]; exact HRB4.out.drewN q
    clear hw5 hc4 HRA4 HRB4
    have hnm : (n : Int) + (m : Int) = (l : Int) := by omega
    have hback : Hid (wrap64 (wrap64 (off + n) - off) = n) := off_back off n (by omega)
    obtain ⟨o2, ho2⟩ : ∃ o2, wrap64 (off + n) = o2 := ⟨_, rfl⟩
    rw [ho2] at hback ⊢
    clear ho2
    go_wp2
    clear hnm
    go_loopw [14] (fun v wr => ∃ k q : Nat, v = .int .i64 k ∧ k ≤ n ∧ wr = w5.drewN q) (fun v _ => n - (intOf v).toNat)
    case atStart => exact ⟨0, 0, rfl, Nat.zero_le _, rfl⟩
    case round =>
      obtain ⟨k, q, rfl, hk, hwr⟩ := hrel
      have HWR : Hid _ := hwr
      by_cases hlt : k < n
      · obtain ⟨y, hy⟩ : ∃ y, F k = y := ⟨_, rfl⟩
        have g1 : wr.cell? ⟨B, k, none⟩ = some (.int .u8 y) := by rw [hwr, ← hy]; exact HRB5.out k (by omega)
        have g2 : wr.cell? ⟨w.heap.size, k, none⟩ = some (.int .u8 y) := by rw [hwr, ← hy]; exact HRA5.out k (by omega)
        clear hy hwr
        go_wp2_with fail
        go_quiet (fail)
        go_wp2
        go_roundw
        case rel => exact ⟨k + 1, q + nq, by go_num, by omega, by rw [HWR.out]; simp⟩
        case measure => simp [intOf]; omega
      · clear hwr
        have HRA6 : Hid (Row wr w.heap.size l F) := by show Row _ _ _ _; rw [HWR.out]; exact HRA5.out.drewN q
        have HRB6 : Hid (Row wr B l F) := by show Row _ _ _ _; rw [HWR.out]; exact HRB5.out.drewN q
        have hb6 : Hid (Below w.heap.size w wr) := by show Below _ _ _; rw [HWR.out]; exact bel_drewN hb5 q
        obtain ⟨w6, hw6⟩ : ∃ w6, wr = w6 := ⟨_, rfl⟩
        rw [hw6] at HRA6 HRB6 hb6 ⊢
        clear hw6 HWR HRA5 HRB5 hb5
        go_wp2
        go_loopw [15] (fun v wr => ∃ k q : Nat, v = .int .i64 k ∧ k ≤ m ∧ wr = w6.drewN q) (fun v _ => m - (intOf v).toNat)
        case atStart => exact ⟨0, 0, rfl, Nat.zero_le _, rfl⟩
        case round =>
          obtain ⟨j, q, rfl, hj, hwr⟩ := hrel
          have HWR : Hid _ := hwr
          by_cases hlt2 : j < m
          · obtain ⟨y, hy⟩ : ∃ y, F (n + j) = y := ⟨_, rfl⟩
            have g1 : wr.cell? ⟨B, oo + j, none⟩ = some (.int .u8 y) := by rw [hwr, ← hy, HOO.out (by omega)]; exact HRB6.out (n + j) (by omega)
            have g2 : wr.cell? ⟨w.heap.size, n + j, none⟩ = some (.int .u8 y) := by rw [hwr, ← hy]; exact HRA6.out (n + j) (by omega)
            clear hy hwr
            go_wp2_with fail
            go_quiet (fail)
            go_wp2
            go_roundw
            case rel => exact ⟨j + 1, q + nq, by go_num, by omega, by rw [HWR.out]; simp⟩
            case measure => simp [intOf]; omega
          · clear hwr
            have hbk := hback.out
            go_wp2
            go_ret
            exact ⟨rfl, by rw [HWR.out]; exact bel_drewN hb6.out q⟩
end Go.Proofs.Qxb6603576a
