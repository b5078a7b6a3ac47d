/-
  The walk of fIsSortedView (24): does s hold q's values in ascending order?
-/
import Derived.Test.Qxb6602921aSort
import Derived.Test.Qxb6602921aDropPlain
namespace Go.Proofs.Qxb6602921a
open Go.RowKit Go.Sort
attribute [local go_sem] run_store_float

set_option maxHeartbeats 1000000 in
theorem sorted_zero (a : Option Addr) (cap : Nat) (w : World) :
    Calls Try.prog 21 #[.slice a 0 cap] w fun e w' => ∃ A : Nat, e = .returned (.slice (some ⟨A, 0, none⟩) 0 0) ∧ Below w.heap.size w w' := by
  have hmk := run_make_row' (P := Try.prog) 22 25 (.float .f64 0) 8 Try.underlying22 Try.info25 rfl .i64 .i64 0 (by omega) (by omega)
  simp only [Int.natCast_zero] at hmk
  go_enter Try.func21, Try.ntmps21
  go_wp2
  go_loop [5] (fun i => i = .int .i64 0) (fun _ => 0)
  case atStart => rfl
  case round =>
    subst hrel
    go_wp2
    clear hmk
    have hb : Below w.heap.size w ((w.alloc (.cells (madeCells #[.float .f64 0] 0) 25)).alloc (.cells (madeCells #[.float .f64 0] 0) 25)) := ((Below.refl _ _).alloc (Nat.le_refl _) _).alloc (by simp) _
    generalize (w.alloc (.cells (madeCells #[.float .f64 0] 0) 25)).alloc (.cells (madeCells #[.float .f64 0] 0) 25) = W0 at hb ⊢
    go_loop [4, 7] (fun a i => a = .slice (some ⟨w.heap.size, 0, none⟩) 0 0 ∧ i = .int .i64 1) (fun _ _ => 0)
    case atStart => exact ⟨rfl, rfl⟩
    case round =>
      obtain ⟨rfl, rfl⟩ := hrel
      go_wp2
      go_ret
      first | exact ⟨_, rfl, hb⟩ | exact ⟨⟨_, rfl⟩, hb⟩ | exact hb

theorem sv_ne (a1 a2 : Option Addr) (n1 c1 n2 c2 : Nat) (w : World) (h : n1 ≠ n2) :
    Calls Try.prog 24 #[.slice a1 n1 c1, .slice a2 n2 c2] w fun e w' => e = .returned (.bool false) ∧ w = w' := by
  have h' : ¬ ((n1 : Int) = (n2 : Int)) := by omega
  go_enter Try.func24, Try.ntmps24
  go_wp2
  go_ret
  exact ⟨rfl, rfl⟩

theorem sv_zero (a1 a2 : Option Addr) (c1 c2 : Nat) (w : World) :
    Calls Try.prog 24 #[.slice a1 0 c1, .slice a2 0 c2] w fun e w' => e = .returned (.bool true) ∧ Below w.heap.size w w' := by
  go_enter Try.func24, Try.ntmps24
  go_wp2_with fail
  refine (sorted_zero a2 c2 w).mono ?_
  rintro e w1 ⟨A, rfl, hb⟩
  go_wp2
  go_loop [6] (fun i => i = .int .i64 0) (fun _ => 0)
  case atStart => rfl
  case round =>
    subst hrel
    go_wp2
    go_ret
    exact ⟨rfl, hb⟩

set_option maxRecDepth 100000 in
set_option maxHeartbeats 1000000 in
theorem sv_pos (b1 o1 c1 b2 o2 c2 n : Nat) (s q : Array Nat) (w : World) (hn : n ≤ 1048576) (hs : s.size = n) (hq : q.size = n) (hb1 : n = 0 ∨ b1 < w.heap.size) (hb2 : n = 0 ∨ b2 < w.heap.size)
    (hc1 : ∀ j, j < n → w.cell? ⟨b1, o1 + j, none⟩ = some (.float .f64 s[j]!)) (hc2 : ∀ j, j < n → w.cell? ⟨b2, o2 + j, none⟩ = some (.float .f64 q[j]!)) :
    Calls Try.prog 24 #[.slice (some ⟨b1, o1, none⟩) n c1, .slice (some ⟨b2, o2, none⟩) n c2] w fun e w' => ∃ v, e = .returned v ∧ ((v = .bool true ∧ View n s q) ∨ (v = .bool false ∧ ¬ View n s q)) ∧ Below w.heap.size w w' := by
  have HS : Hid _ := hs
  have HQ : Hid _ := hq
  have HC1 : Hid _ := hc1
  have HC2 : Hid _ := hc2
  clear hs hq hc1 hc2
  go_enter Try.func24, Try.ntmps24
  go_wp2_with fail
  refine (sorted_any b2 o2 n c2 q w hn HQ.out hb2 HC2.out).mono ?_
  rintro e w1 ⟨A, t, rfl, hA, ht, hp, hso, hH, hbel⟩
  have HT : Hid _ := ht
  have hc1' : Hid (∀ i, i < n → w1.cell? ⟨b1, o1 + i, none⟩ = some (.float .f64 s[i]!)) := fun i hi => by
    have g := HC1.out i hi
    rw [hbel.cell (show b1 < _ by omega)]
    exact g
  have hct : Hid (∀ i, i < n → w1.cell? ⟨A, i, none⟩ = some (.float .f64 t[i]!)) := fun i hi => by
    have g := (hH i (by rw [HT.out]; exact hi)).1
    rw [Nat.zero_add] at g
    exact g
  clear ht hH HC1 HC2
  go_wp2
  go_loopw [6] (fun v wr => ∃ k m : Nat, v = .int .i64 k ∧ k ≤ n ∧ wr = w1.drewN m ∧ ∀ i, i < k → Fl.ceq s[i]! t[i]! = true) (fun v _ => n - (intOf v).toNat)
  case atStart => exact ⟨0, 0, rfl, Nat.zero_le _, rfl, fun i h => by omega⟩
  case round =>
    obtain ⟨k, m, rfl, hk, hwr, hf⟩ := hrel
    have HWR : Hid _ := hwr
    have HF : Hid _ := hf
    clear hf
    by_cases hlt : k < n
    · obtain ⟨x, hx⟩ : ∃ x, s[k]! = x := ⟨_, rfl⟩
      obtain ⟨y, hy⟩ : ∃ y, t[k]! = y := ⟨_, rfl⟩
      have g1 : wr.cell? ⟨b1, o1 + k, none⟩ = some (.float .f64 s[k]!) := by rw [hwr]; exact hc1'.out k hlt
      have g2 : wr.cell? ⟨A, k, none⟩ = some (.float .f64 t[k]!) := by rw [hwr]; exact hct.out k hlt
      rw [hx] at g1
      rw [hy] at g2
      have HX : Hid _ := hx
      have HY : Hid _ := hy
      have cb := cmpEqual_any x y
      clear hx hy hwr
      cases hb : Fl.ceq x y with
      | true =>
        rw [hb] at cb
        have CB : Hid _ := cb
        have HB : Hid _ := hb
        clear cb hb
        go_wp2_with fail
        go_quiet ((go_at_call 35; exact Calls.quiet_of_same (calls_flip (CB.out _))))
        go_wp2
        go_roundw
        case rel => exact ⟨k + 1, m + nq, by go_num, by omega, by rw [HWR.out]; simp, fun i hi => by
          by_cases e : i = k
          · rw [e, HX.out, HY.out]; exact HB.out
          · exact HF.out i (by omega)⟩
        case measure => simp [intOf]; omega
      | false =>
        rw [hb] at cb
        have CB : Hid _ := cb
        have HB : Hid _ := hb
        clear cb hb
        go_wp2_with fail
        go_quiet ((go_at_call 35; exact Calls.quiet_of_same (calls_flip (CB.out _))))
        go_wp2
        go_ret
        have hno : ¬ View n s q := fun hv => by
          have := hv.ceq HT.out hso hp k hlt
          rw [HX.out, HY.out, HB.out] at this
          cases this
        exact ⟨_, rfl, .inr ⟨rfl, hno⟩, by rw [HWR.out]; exact bel_drewN (bel_drewN hbel m) _⟩
    · clear hwr
      have hyes : Hid (View n s q) := view_of HS.out HQ.out HT.out hso hp fun i hi => HF.out i (by omega)
      go_wp2
      go_ret
      exact ⟨_, rfl, .inl ⟨rfl, hyes.out⟩, by rw [HWR.out]; exact bel_drewN hbel m⟩
end Go.Proofs.Qxb6602921a
