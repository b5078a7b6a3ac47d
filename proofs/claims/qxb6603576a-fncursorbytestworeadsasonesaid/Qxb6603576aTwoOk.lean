/-
  The walk of the law FnCursorBytesTwoReadsAsOne (4), where nothing overruns.
-/
import Derived.Test.Qxb6603576aTwo
namespace Go.Proofs.Qxb6603576a
open Go.RowKit Go.Sort

theorem at_if {l n o : Nat} : ∃ oo, (if l = n then o else o + n) = oo ∧ (n < l → oo = o + n) := ⟨_, rfl, fun h => if_neg (by omega)⟩

set_option maxRecDepth 100000 in
set_option maxHeartbeats 4000000 in
theorem two_ok (x : Addr) (l c : Nat) (F : Nat → Int) (off : Int) (n1 n2 N : Nat) (b : Bool) (w : World) (hl : l ≤ 1048576) (hNi : (n1 : Int) + (n2 : Int) = (N : Int)) (hNl : N ≤ l) (hin : ∀ i, i < l → w.cell? (x.add i) = some (.int .u8 (F i))) :
    Calls Try.prog 4 #[.slice (some x) l c, .int .i64 off, .bool b, .int .i64 n1, .int .i64 n2] w fun e w' => e = .returned (.bool true) ∧ Below w.heap.size w w' := by
  have hnil := fun w a n c => Lib.run_eql_slice_nil (P := Try.prog) w 22 5 a n c 0 0 Try.underlying22
  have hd1 : decide ((n1 : Int) < 0) = false := decide_eq_false (by omega)
  have hd2 : decide ((n2 : Int) < 0) = false := decide_eq_false (by omega)
  have hd3 : decide ((9223372036854775807 : Int) - (n2 : Int) < (n1 : Int)) = false := decide_eq_false (by omega)
  have HIN : Hid _ := hin
  clear hin
  go_enter Try.func4, Try.ntmps4
  go_wp2_with (go_at_call 10; refine (bytes10_yes _ _ _ _ _ _ _ _ (by omega)).mono ?_; rintro e w' ⟨rfl, rfl⟩)
  clear hd1 hd2 hd3
  refine (clone_in x l c F w hl HIN.out).mono ?_
  rintro e w1 ⟨rfl, hw1⟩
  have hz1 : Hid (w1.heap.size = w.heap.size + 1) := by show _ = _; rw [hw1]; simp
  have hb1 : Below w.heap.size w w1 := by rw [hw1]; exact (Below.refl _ _).alloc (Nat.le_refl _) _
  have HR1 : Hid (Row w1 w.heap.size l F) := by show Row _ _ _ _; rw [hw1]; exact row_copy w F l
  clear hw1 HIN
  go_wp2_with fail
  refine (clone_some w.heap.size 0 l l F w1 hl (.inr (by rw [hz1.out]; omega)) (fun j hj => by rw [Nat.zero_add]; exact HR1.out j hj)).mono ?_
  rintro e w2 ⟨rfl, hw2⟩
  have hz2 : Hid (w2.heap.size = w.heap.size + 2) := by show _ = _; rw [hw2]; simp [hz1.out]
  have hb2 : Below w.heap.size w w2 := by rw [hw2]; exact hb1.alloc hb1.size _
  have HRA : Hid (Row w2 w.heap.size l F) := by show Row _ _ _ _; rw [hw2]; exact HR1.out.alloc (by rw [hz1.out]; omega) _
  have HRB : Hid (Row w2 (w.heap.size + 1) l F) := by show Row _ _ _ _; rw [hw2, ← hz1.out]; exact row_copy w1 F l
  rw [hz1.out]
  clear hw2 hb1 HR1 hz1
  go_wp2_with fail
  refine (newcur_any _ _ _ off b w2).mono ?_
  rintro e w3 ⟨rfl, hw3⟩
  rw [hz2.out]
  have hz3 : Hid (w3.heap.size = w.heap.size + 3) := by show _ = _; rw [hw3]; simp [hz2.out]
  have hc3 : CSt w w3 (w.heap.size + 2) (some ⟨w.heap.size + 1, 0, none⟩) l l off b := by rw [hw3, ← hz2.out]; exact made_cur w w2 hb2 _ l l off b
  have HRA3 : Hid (Row w3 w.heap.size l F) := by show Row _ _ _ _; rw [hw3]; exact HRA.out.alloc (by rw [hz2.out]; omega) _
  have HRB3 : Hid (Row w3 (w.heap.size + 1) l F) := by show Row _ _ _ _; rw [hw3]; exact HRB.out.alloc (by rw [hz2.out]; omega) _
  clear hw3 hb2 HRA HRB hz2
  have hz4 : Hid (w3.heap.size = w.heap.size + 3) := hz3
  go_wp2_with fail
  refine (zzbytes_of (w.heap.size + 2) n1 _ w3 _ (bytes_ok hc3 n1 (by omega) (Nat.le_refl _))).mono ?_
  rintro e w4 ⟨rfl, hc4, hf4⟩
  obtain ⟨o1, ho1, hO1⟩ := at_if (l := l) (n := n1) (o := 0)
  rw [ho1] at hc4
  have HO1 : Hid (n1 < l → o1 = n1) := fun h => by rw [hO1 h, Nat.zero_add]
  clear ho1 hO1
  have HRA4 : Hid (Row w4 w.heap.size l F) := HRA3.out.fr hf4 (by omega)
  have HRB4 : Hid (Row w4 (w.heap.size + 1) l F) := HRB3.out.fr hf4 (by omega)
  have hz4' : Hid (w4.heap.size = w.heap.size + 3) := hf4.1.trans hz3.out
  clear hf4 HRA3 HRB3 hc3 hz3 hz4
  go_wp2_with fail
  refine (zzbytes_of (w.heap.size + 2) n2 _ w4 _ (bytes_ok hc4 n2 (by omega) (Nat.le_refl _))).mono ?_
  rintro e w5 ⟨rfl, hc5, hf5⟩
  obtain ⟨o2, ho2, hO2⟩ := at_if (l := l - n1) (n := n2) (o := o1)
  rw [ho2, off_two off n1 n2 N hNi] at hc5
  have HO2 : Hid (N < l → o2 = N) := fun h => by rw [hO2 (by omega), HO1.out (by omega)]; omega
  obtain ⟨m, hm⟩ : ∃ m, l - n1 - n2 = m := ⟨_, rfl⟩
  rw [hm] at hc5
  have hm1 : l ≤ N + m := by omega
  have hm2 : N + m ≤ l := by omega
  clear hm ho2 hO2
  have HRA5 : Hid (Row w5 w.heap.size l F) := HRA4.out.fr hf5 (by omega)
  have HRB5 : Hid (Row w5 (w.heap.size + 1) l F) := HRB4.out.fr hf5 (by omega)
  have hz5 : Hid (w5.heap.size = w.heap.size + 3) := hf5.1.trans hz4'.out
  clear hf5 HRA4 HRB4 hc4 hz4'
  go_wp2_with fail
  refine (state_any hc5).mono ?_
  rintro e w6 ⟨rfl, q6, hw6⟩
  have hb6 : Below w.heap.size w w6 := by rw [hw6]; exact bel_drewN hc5.bel q6
  have HRA6 : Hid (Row w6 w.heap.size l F) := by show Row _ _ _ _; rw [hw6]; exact HRA5.out.drewN q6
  have HRB6 : Hid (Row w6 (w.heap.size + 1) l F) := by show Row _ _ _ _; rw [hw6]; exact HRB5.out.drewN q6
  have hz6 : Hid (w6.heap.size = w.heap.size + 3) := by show _ = _; rw [hw6]; exact hz5.out
  clear hw6 hc5 HRA5 HRB5 hz5
  go_wp2_with fail
  refine (clone_some w.heap.size 0 l l F w6 hl (.inr (by rw [hz6.out]; omega)) (fun j hj => by rw [Nat.zero_add]; exact HRA6.out j hj)).mono ?_
  rintro e w7 ⟨rfl, hw7⟩
  have hz7 : Hid (w7.heap.size = w.heap.size + 4) := by show _ = _; rw [hw7]; simp [hz6.out]
  have hb7 : Below w.heap.size w w7 := by rw [hw7]; exact hb6.alloc hb6.size _
  have HRB7 : Hid (Row w7 (w.heap.size + 1) l F) := by show Row _ _ _ _; rw [hw7]; exact HRB6.out.alloc (by rw [hz6.out]; omega) _
  have HRC7 : Hid (Row w7 (w.heap.size + 3) l F) := by show Row _ _ _ _; rw [hw7, ← hz6.out]; exact row_copy w6 F l
  rw [hz6.out]
  clear hw7 hb6 HRA6 HRB6 hz6
  go_wp2_with fail
  refine (newcur_any _ _ _ off b w7).mono ?_
  rintro e w8 ⟨rfl, hw8⟩
  rw [hz7.out]
  have hc8 : CSt w w8 (w.heap.size + 4) (some ⟨w.heap.size + 3, 0, none⟩) l l off b := by rw [hw8, ← hz7.out]; exact made_cur w w7 hb7 _ l l off b
  have HRB8 : Hid (Row w8 (w.heap.size + 1) l F) := by show Row _ _ _ _; rw [hw8]; exact HRB7.out.alloc (by rw [hz7.out]; omega) _
  have HRC8 : Hid (Row w8 (w.heap.size + 3) l F) := by show Row _ _ _ _; rw [hw8]; exact HRC7.out.alloc (by rw [hz7.out]; omega) _
  clear hw8 hb7 HRB7 HRC7 hz7
  go_wp2_with fail
  refine (zzbytes_of (w.heap.size + 4) N _ w8 _ (bytes_ok hc8 N hNl (Nat.le_refl _))).mono ?_
  rintro e w9 ⟨rfl, hc9, hf9⟩
  obtain ⟨o3, ho3, hO3⟩ := at_if (l := l) (n := N) (o := 0)
  rw [ho3] at hc9
  have HO3 : Hid (N < l → o3 = N) := fun h => by rw [hO3 h, Nat.zero_add]
  clear ho3 hO3
  have hlm : l - N = m := by omega
  rw [hlm] at hc9
  clear hlm
  have HRB9 : Hid (Row w9 (w.heap.size + 1) l F) := HRB8.out.fr hf9 (by omega)
  have HRC9 : Hid (Row w9 (w.heap.size + 3) l F) := HRC8.out.fr hf9 (by omega)
  clear hf9 HRB8 HRC8 hc8
  go_wp2_with fail
  refine (state_any hc9).mono ?_
  rintro e w10 ⟨rfl, q10, hw10⟩
  have hb10 : Below w.heap.size w w10 := by rw [hw10]; exact bel_drewN hc9.bel q10
  have HRB : Hid (Row w10 (w.heap.size + 1) l F) := by show Row _ _ _ _; rw [hw10]; exact HRB9.out.drewN q10
  have HRC : Hid (Row w10 (w.heap.size + 3) l F) := by show Row _ _ _ _; rw [hw10]; exact HRC9.out.drewN q10
  clear hw10 hc9 HRB9 HRC9
  obtain ⟨B, hB⟩ : ∃ B, w.heap.size + 1 = B := ⟨_, rfl⟩
  obtain ⟨C, hC⟩ : ∃ C, w.heap.size + 3 = C := ⟨_, rfl⟩
  rw [hB] at HRB ⊢
  rw [hC] at HRC ⊢
  clear hB hC
  have hback : Hid (wrap64 (wrap64 (off + N) - off) = N) := off_back off N (by omega)
  obtain ⟨ob, hob⟩ : ∃ ob, wrap64 (off + N) = ob := ⟨_, rfl⟩
  rw [hob] at hback ⊢
  clear hob
  have hNd : decide (l < N) = false := decide_eq_false (by omega)
  cases b <;>
  · go_wp2
    go_loopw [23] (fun v wr => ∃ k q : Nat, v = .int .i64 k ∧ k ≤ n1 ∧ wr = w10.drewN q) (fun v _ => n1 - (intOf v).toNat)
    case atStart => exact ⟨0, 0, rfl, Nat.zero_le _, rfl⟩
    case round =>
      obtain ⟨k, q, rfl, hk, hwr⟩ := hrel
      have HWR : Hid _ := hwr
      by_cases hlt : k < n1
      · obtain ⟨y, hy⟩ : ∃ y, F k = y := ⟨_, rfl⟩
        have g1 : wr.cell? ⟨B, k, none⟩ = some (.int .u8 y) := by rw [hwr, ← hy]; exact HRB.out k (by omega)
        have g2 : wr.cell? ⟨C, k, none⟩ = some (.int .u8 y) := by rw [hwr, ← hy]; exact HRC.out k (by omega)
        have hkN : k < N := by omega
        clear hy hwr
        go_wp2_with fail
        go_quiet (fail)
        go_wp2
        go_roundw
        case rel => exact ⟨k + 1, q + nq, by go_num, by omega, by rw [HWR.out]; simp⟩
        case measure => simp [intOf]; omega
      · clear hwr
        have HRB2 : Hid (Row wr B l F) := by show Row _ _ _ _; rw [HWR.out]; exact HRB.out.drewN q
        have HRC2 : Hid (Row wr C l F) := by show Row _ _ _ _; rw [HWR.out]; exact HRC.out.drewN q
        have hb11 : Hid (Below w.heap.size w wr) := by show Below _ _ _; rw [HWR.out]; exact bel_drewN hb10 q
        obtain ⟨w11, hw11⟩ : ∃ w11, wr = w11 := ⟨_, rfl⟩
        rw [hw11] at HRB2 HRC2 hb11 ⊢
        clear hw11 HWR HRB HRC hb10
        go_wp2
        go_loopw [24] (fun v wr => ∃ k q : Nat, v = .int .i64 k ∧ k ≤ n2 ∧ wr = w11.drewN q) (fun v _ => n2 - (intOf v).toNat)
        case atStart => exact ⟨0, 0, rfl, Nat.zero_le _, rfl⟩
        case round =>
          obtain ⟨j, q, rfl, hj, hwr⟩ := hrel
          have HWR : Hid _ := hwr
          by_cases hlt2 : j < n2
          · obtain ⟨y, hy⟩ : ∃ y, F (n1 + j) = y := ⟨_, rfl⟩
            have g1 : wr.cell? ⟨B, o1 + j, none⟩ = some (.int .u8 y) := by rw [hwr, ← hy, HO1.out (by omega)]; exact HRB2.out (n1 + j) (by omega)
            have g2 : wr.cell? ⟨C, n1 + j, none⟩ = some (.int .u8 y) := by rw [hwr, ← hy]; exact HRC2.out (n1 + j) (by omega)
            have hkN : n1 + j < N := by omega
            clear hy hwr
            go_wp2_with fail
            go_quiet (fail)
            go_wp2
            go_roundw
            case rel => exact ⟨j + 1, q + nq, by go_num, by omega, by rw [HWR.out]; simp⟩
            case measure => simp [intOf]; omega
          · clear hwr
            have hr1 : Hid (∀ j, j < m → wr.cell? ⟨B, o2 + j, none⟩ = some (.int .u8 (F (N + j)))) := fun j hj => by rw [HWR.out, HO2.out (by omega)]; exact HRB2.out (N + j) (by omega)
            have hr2 : Hid (∀ j, j < m → wr.cell? ⟨C, o3 + j, none⟩ = some (.int .u8 (F (N + j)))) := fun j hj => by rw [HWR.out, HO3.out (by omega)]; exact HRC2.out (N + j) (by omega)
            have hb12 : Hid (Below w.heap.size w wr) := by show Below _ _ _; rw [HWR.out]; exact bel_drewN hb11.out q
            have hlm : (l : Int) - (n1 : Int) - (n2 : Int) = (m : Int) := by omega
            have hbk := hback.out
            clear HWR HRB2 HRC2 hb11
            go_wp2_with fail
            refine (same_any B o2 m C o3 m m (fun j => F (N + j)) wr (by omega) hr1.out hr2.out).mono ?_
            rintro e w13 ⟨rfl, q13, hw13⟩
            have hb13 : Below w.heap.size w w13 := by rw [hw13]; exact bel_drewN hb12.out q13
            clear hw13
            go_wp2
            go_ret
            exact ⟨rfl, hb13⟩
end Go.Proofs.Qxb6603576a
