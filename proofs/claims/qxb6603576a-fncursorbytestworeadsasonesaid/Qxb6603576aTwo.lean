/-
  The walk of the law FnCursorBytesTwoReadsAsOne (4).
-/
import Derived.Test.Qxb6603576aSplit
namespace Go.Proofs.Qxb6603576a
open Go.RowKit Go.Sort

theorem bytes10_yes (a : Option Addr) (l c : Nat) (off n1 n2 : Int) (b : Bool) (w : World) (hn : l ≤ 1048576) : Calls Try.prog 10 #[.slice a l c, .int .i64 off, .bool b, .int .i64 n1, .int .i64 n2] w fun e w' => e = .returned (.bool true) ∧ w = w' := by
  go_enter Try.func10, Try.ntmps10
  go_wp2
  go_ret
  exact ⟨rfl, rfl⟩
theorem bytes10_no (a : Option Addr) (l c : Nat) (off n1 n2 : Int) (b : Bool) (w : World) (hn : 1048576 < l) : Calls Try.prog 10 #[.slice a l c, .int .i64 off, .bool b, .int .i64 n1, .int .i64 n2] w fun e w' => e = .returned (.bool false) ∧ w = w' := by
  go_enter Try.func10, Try.ntmps10
  go_wp2
  go_ret
  exact ⟨rfl, rfl⟩

set_option maxRecDepth 100000 in
set_option maxHeartbeats 1000000 in
theorem two_out (a : Option Addr) (l c : Nat) (off n1 n2 : Int) (b : Bool) (w : World) (h1 : -9223372036854775808 ≤ n2) (h2 : n2 ≤ 9223372036854775807) (h : 1048576 < l ∨ n1 < 0 ∨ n2 < 0 ∨ 9223372036854775807 - n2 < n1) :
    Calls Try.prog 4 #[.slice a l c, .int .i64 off, .bool b, .int .i64 n1, .int .i64 n2] w fun e w' => e = .returned (.bool true) ∧ Below w.heap.size w w' := by
  by_cases hl : 1048576 < l
  · clear h
    go_enter Try.func4, Try.ntmps4
    go_wp2_with (go_at_call 10; refine (bytes10_no a l c off n1 n2 b _ hl).mono ?_; rintro e w' ⟨rfl, rfl⟩)
    go_ret
    exact ⟨rfl, Below.refl _ _⟩
  · by_cases g1 : n1 < 0
    · have hd : decide (n1 < 0) = true := decide_eq_true g1
      clear h
      go_enter Try.func4, Try.ntmps4
      go_wp2_with (go_at_call 10; refine (bytes10_yes a l c off n1 n2 b _ (by omega)).mono ?_; rintro e w' ⟨rfl, rfl⟩)
      go_ret
      exact ⟨rfl, Below.refl _ _⟩
    · have hd1 : decide (n1 < 0) = false := decide_eq_false g1
      by_cases g2 : n2 < 0
      · have hd : decide (n2 < 0) = true := decide_eq_true g2
        clear h
        go_enter Try.func4, Try.ntmps4
        go_wp2_with (go_at_call 10; refine (bytes10_yes a l c off n1 n2 b _ (by omega)).mono ?_; rintro e w' ⟨rfl, rfl⟩)
        go_ret
        exact ⟨rfl, Below.refl _ _⟩
      · have hd2 : decide (n2 < 0) = false := decide_eq_false g2
        have hd3 : decide ((9223372036854775807 : Int) - n2 < n1) = true := decide_eq_true (by omega)
        clear h
        go_enter Try.func4, Try.ntmps4
        go_wp2_with (go_at_call 10; refine (bytes10_yes a l c off n1 n2 b _ (by omega)).mono ?_; rintro e w' ⟨rfl, rfl⟩)
        go_ret
        exact ⟨rfl, Below.refl _ _⟩

/-- A slice that a clone gave. -/
def Cl (w : World) (a : Option Addr) (l : Nat) (F : Nat → Int) : Prop := (a = none ∧ l = 0) ∨ ∃ Z, a = some ⟨Z, 0, none⟩ ∧ Z < w.heap.size ∧ Row w Z l F
theorem Cl.below {w w' : World} {a : Option Addr} {l : Nat} {F : Nat → Int} (h : Cl w a l F) (hb : Below w.heap.size w w') : Cl w' a l F := by
  rcases h with h | ⟨Z, rfl, hZ, hr⟩
  · exact .inl h
  · exact .inr ⟨Z, rfl, Nat.lt_of_lt_of_le hZ hb.size, fun t ht => (hb.cell (show Z < _ from hZ)).trans (hr t ht)⟩
theorem Cl.alloc {w : World} {a : Option Addr} {l : Nat} {F : Nat → Int} (h : Cl w a l F) (o : Obj) : Cl (w.alloc o) a l F := h.below ((Below.refl _ _).alloc (Nat.le_refl _) _)
theorem Cl.drewN {w : World} {a : Option Addr} {l : Nat} {F : Nat → Int} (h : Cl w a l F) (q : Nat) : Cl (w.drewN q) a l F := h
/-- A clone that does not lead to P's block. -/
def ClN (P : Nat) (w : World) (a : Option Addr) (l : Nat) (F : Nat → Int) : Prop := Cl w a l F ∧ ∀ Z, a = some ⟨Z, 0, none⟩ → Z ≠ P
theorem ClN.fr {P : Nat} {w w' : World} {a : Option Addr} {l : Nat} {F : Nat → Int} (h : ClN P w a l F) (hf : Fr P w w') : ClN P w' a l F := by
  refine ⟨?_, h.2⟩
  rcases h.1 with g | ⟨Z, rfl, hZ, hr⟩
  · exact .inl g
  · exact .inr ⟨Z, rfl, by rw [hf.1]; exact hZ, hr.fr hf (h.2 Z rfl)⟩
theorem ClN.new {w : World} {a : Option Addr} {l : Nat} {F : Nat → Int} (h : Cl w a l F) (o : Obj) : ClN w.heap.size (w.alloc o) a l F := by
  refine ⟨h.alloc o, fun Z hZ => ?_⟩
  rcases h with ⟨g, _⟩ | ⟨Z', g, hlt, _⟩
  · rw [g] at hZ; cases hZ
  · rw [g] at hZ
    injection hZ with e
    injection e with e1
    omega

theorem clone_cl (a : Option Addr) (l : Nat) (F : Nat → Int) (w : World) (hl : l ≤ 1048576) (h : Cl w a l F) :
    Calls Try.prog 6 #[.slice a l l] w fun e w' => ∃ a', e = .returned (.slice a' l l) ∧ Cl w' a' l F ∧ Cl w' a l F ∧ ∀ w0, Below w0.heap.size w0 w → Below w0.heap.size w0 w' := by
  rcases h with ⟨rfl, rfl⟩ | ⟨Z, rfl, hZ, hr⟩
  · refine (clone_nil w).mono ?_
    rintro e w' ⟨rfl, rfl⟩
    exact ⟨none, rfl, .inl ⟨rfl, rfl⟩, .inl ⟨rfl, rfl⟩, fun _ h => h⟩
  · refine (clone_some Z 0 l l F w hl (.inr hZ) (fun j hj => by rw [Nat.zero_add]; exact hr j hj)).mono ?_
    rintro e w' ⟨rfl, rfl⟩
    exact ⟨_, rfl, .inr ⟨_, rfl, by simp, row_copy w F l⟩, .inr ⟨Z, rfl, by simp; omega, hr.alloc hZ _⟩, fun w0 h => h.alloc h.size _⟩
theorem clone_b (a : Option Addr) (l c : Nat) (F : Nat → Int) (w : World) (hl : l ≤ 1048576) (hc : a = none → c = 0) (h : IsB w a l F) :
    Calls Try.prog 6 #[.slice a l c] w fun e w' => ∃ a', e = .returned (.slice a' l l) ∧ Cl w' a' l F ∧ Below w.heap.size w w' := by
  rcases h with ⟨rfl, rfl⟩ | ⟨x, rfl, hx⟩
  · obtain rfl := hc rfl
    refine (clone_nil w).mono ?_
    rintro e w' ⟨rfl, rfl⟩
    exact ⟨none, rfl, .inl ⟨rfl, rfl⟩, Below.refl _ _⟩
  · refine (clone_in x l c F w hl hx).mono ?_
    rintro e w' ⟨rfl, rfl⟩
    exact ⟨_, rfl, .inr ⟨_, rfl, by simp, row_copy w F l⟩, (Below.refl _ _).alloc (Nat.le_refl _) _⟩

/-- The cursor between the two reads, where they overrun. -/
def Mid (w w' : World) (P n2 : Nat) : Prop := (∃ off', CSt w w' P none 0 0 off' true ∧ wrap64 off' = off') ∨ ∃ a l c off' b, CSt w w' P a l c off' b ∧ l < n2

theorem over_first {w wr : World} {P : Nat} {a : Option Addr} {l : Nat} {off : Int} {b : Bool} (h : CSt w wr P a l l off b) (ha : (a = none ∧ l = 0) ∨ ∃ Z, a = some ⟨Z, 0, none⟩) (n1 n2 : Nat) (hoff : wrap64 off = off) (hov : l < n1 + n2) :
    Calls Try.prog 8 #[.pointer (some ⟨P, 0, none⟩), .int .i64 n1] wr fun e w' => ∃ av lv cv, e = .returned (.slice av lv cv) ∧ Mid w w' P n2 ∧ Fr P wr w' := by
  by_cases g : l < n1
  · refine (zzbytes_of P n1 _ wr _ (bytes_short h n1 g)).mono ?_
    rintro e w' ⟨rfl, hc, hf⟩
    exact ⟨_, _, _, rfl, .inl ⟨off, hc, hoff⟩, hf⟩
  · rcases ha with ⟨rfl, rfl⟩ | ⟨Z, rfl⟩
    · obtain rfl : n1 = 0 := by omega
      refine (zzbytes_of P 0 _ wr _ (bytes_nil h hoff)).mono ?_
      rintro e w' ⟨rfl, hc, hf⟩
      exact ⟨_, _, _, rfl, .inr ⟨_, _, _, _, _, hc, by omega⟩, hf⟩
    · refine (zzbytes_of P n1 _ wr _ (bytes_ok h n1 (by omega) (Nat.le_refl _))).mono ?_
      rintro e w' ⟨rfl, hc, hf⟩
      exact ⟨_, _, _, rfl, .inr ⟨_, _, _, _, _, hc, by omega⟩, hf⟩
theorem over_second {w wr : World} {P : Nat} (n2 : Nat) (h : Mid w wr P n2) :
    Calls Try.prog 8 #[.pointer (some ⟨P, 0, none⟩), .int .i64 n2] wr fun e w' => e = .returned (.slice none 0 0) ∧ (∃ oa, CSt w w' P none 0 0 oa true) ∧ Fr P wr w' := by
  rcases h with ⟨off', hc, ho⟩ | ⟨a, l, c, off', b, hc, hl⟩
  · by_cases g : 0 < n2
    · refine (zzbytes_of P n2 _ wr _ (bytes_short hc n2 g)).mono ?_
      rintro e w' ⟨rfl, hc, hf⟩
      exact ⟨rfl, ⟨_, hc⟩, hf⟩
    · obtain rfl : n2 = 0 := by omega
      refine (zzbytes_of P 0 _ wr _ (bytes_nil hc ho)).mono ?_
      rintro e w' ⟨rfl, hc, hf⟩
      exact ⟨rfl, ⟨_, hc⟩, hf⟩
  · refine (zzbytes_of P n2 _ wr _ (bytes_short hc n2 hl)).mono ?_
    rintro e w' ⟨rfl, hc, hf⟩
    exact ⟨rfl, ⟨_, hc⟩, hf⟩

set_option maxRecDepth 100000 in
set_option maxHeartbeats 4000000 in
theorem two_over (a : Option Addr) (l c : Nat) (F : Nat → Int) (off : Int) (n1 n2 : Nat) (b : Bool) (w : World) (hl : l ≤ 1048576) (hmax : n1 + n2 ≤ 9223372036854775807) (hoff : wrap64 off = off) (hov : l < n1 + n2) (hcap : a = none → c = 0) (hin : IsB w a l F) :
    Calls Try.prog 4 #[.slice a l c, .int .i64 off, .bool b, .int .i64 n1, .int .i64 n2] w fun e w' => e = .returned (.bool true) ∧ Below w.heap.size w w' := by
  have hnil := fun w a n c => Lib.run_eql_slice_nil (P := Try.prog) w 22 5 a n c 0 0 Try.underlying22
  have hd1 : decide ((n1 : Int) < 0) = false := decide_eq_false (by omega)
  have hd2 : decide ((n2 : Int) < 0) = false := decide_eq_false (by omega)
  have hd3 : decide ((9223372036854775807 : Int) - (n2 : Int) < (n1 : Int)) = false := decide_eq_false (by omega)
  have HIN : Hid _ := hin
  have HCAP : Hid _ := hcap
  have HO : Hid _ := hoff
  clear hin hcap hoff
  go_enter Try.func4, Try.ntmps4
  go_wp2_with (go_at_call 10; refine (bytes10_yes _ _ _ _ _ _ _ _ (by omega)).mono ?_; rintro e w' ⟨rfl, rfl⟩)
  clear hd1 hd2 hd3
  refine (clone_b a l c F w hl HCAP.out HIN.out).mono ?_
  rintro e w1 ⟨a1, rfl, hc1, hb1⟩
  go_wp2_with fail
  refine (clone_cl a1 l F w1 hl hc1).mono ?_
  rintro e w2 ⟨a2, rfl, hc22, hc21, hb2'⟩
  have hb2 := hb2' w hb1
  clear hb2' hc1 hb1 HIN HCAP
  have ha2 : Hid ((a2 = none ∧ l = 0) ∨ ∃ Z, a2 = some ⟨Z, 0, none⟩) := by
    rcases hc22 with g | ⟨Z, g, _⟩
    · exact .inl g
    · exact .inr ⟨Z, g⟩
  clear hc22
  go_wp2_with fail
  refine (newcur_any a2 l l off b w2).mono ?_
  rintro e w3 ⟨rfl, hw3⟩
  obtain ⟨P, hP⟩ : ∃ P, w2.heap.size = P := ⟨_, rfl⟩
  have hs3 : CSt w w3 P a2 l l off b := by rw [hw3, ← hP]; exact made_cur w w2 hb2 a2 l l off b
  have hc3 : ClN P w3 a1 l F := by rw [hw3, ← hP]; exact ClN.new hc21 _
  rw [hP]
  clear hw3 hP hb2 hc21
  go_wp2_with fail
  refine (over_first hs3 ha2.out n1 n2 HO.out hov).mono ?_
  rintro e w4 ⟨av, lv, cv, rfl, hmid, hf4⟩
  have hc4 := hc3.fr hf4
  clear hs3 hc3 hf4
  go_wp2_with fail
  refine (over_second n2 hmid).mono ?_
  rintro e w5 ⟨rfl, ⟨oa, hs5⟩, hf5⟩
  have hc5 := hc4.fr hf5
  clear hmid hc4 hf5
  go_wp2_with fail
  refine (state_any hs5).mono ?_
  rintro e w6 ⟨rfl, q, hw6⟩
  have hb6 : Below w.heap.size w w6 := by rw [hw6]; exact bel_drewN hs5.bel q
  have hc6 : Cl w6 a1 l F := by rw [hw6]; exact hc5.1.drewN q
  clear hw6 hs5 hc5
  go_wp2_with fail
  refine (clone_cl a1 l F w6 hl hc6).mono ?_
  rintro e w7 ⟨a3, rfl, _, _, hb7'⟩
  have hb7 := hb7' w hb6
  clear hb7' hc6 hb6
  go_wp2_with fail
  refine (newcur_any a3 l l off b w7).mono ?_
  rintro e w8 ⟨rfl, hw8⟩
  obtain ⟨P2, hP2⟩ : ∃ P, w7.heap.size = P := ⟨_, rfl⟩
  have hs8 : CSt w w8 P2 a3 l l off b := by rw [hw8, ← hP2]; exact made_cur w w7 hb7 a3 l l off b
  rw [hP2]
  clear hw8 hP2 hb7
  obtain ⟨N, hN⟩ : ∃ N : Nat, n1 + n2 = N := ⟨_, rfl⟩
  have hNi : (n1 : Int) + (n2 : Int) = (N : Int) := by omega
  have hN1 : N ≤ 9223372036854775807 := by omega
  have hNl : l < N := by omega
  have hNd : decide (l < N) = true := decide_eq_true hNl
  clear hN hov hmax
  go_wp2_with fail
  refine (zzbytes_of P2 N _ w8 _ (bytes_short hs8 N hNl)).mono ?_
  rintro e w9 ⟨rfl, hs9, _⟩
  clear hs8
  go_wp2_with fail
  refine (state_any hs9).mono ?_
  rintro e w10 ⟨rfl, q2, hw10⟩
  have hb10 : Below w.heap.size w w10 := by rw [hw10]; exact bel_drewN hs9.bel q2
  clear hw10 hs9
  cases b
  · go_wp2
    go_ret
    exact ⟨rfl, hb10⟩
  · go_wp2
    go_ret
    exact ⟨rfl, hb10⟩

set_option maxHeartbeats 1000000 in
/-- zzSameBytes of two slices with the same bytes. -/
theorem same_any (b1 o1 c1 b2 o2 c2 m : Nat) (G : Nat → Int) (w : World) (hm : m ≤ 1048576) (h1 : ∀ j, j < m → w.cell? ⟨b1, o1 + j, none⟩ = some (.int .u8 (G j))) (h2 : ∀ j, j < m → w.cell? ⟨b2, o2 + j, none⟩ = some (.int .u8 (G j))) :
    Calls Try.prog 11 #[.slice (some ⟨b1, o1, none⟩) m c1, .slice (some ⟨b2, o2, none⟩) m c2] w fun e w' => e = .returned (.bool true) ∧ ∃ q, w' = w.drewN q := by
  have H1 : Hid _ := h1
  have H2 : Hid _ := h2
  clear h1 h2
  go_enter Try.func11, Try.ntmps11
  go_wp2
  go_loopw [5] (fun v wr => ∃ k q : Nat, v = .int .i64 k ∧ k ≤ m ∧ wr = w.drewN q) (fun v _ => m - (intOf v).toNat)
  case atStart => exact ⟨0, 0, rfl, Nat.zero_le _, rfl⟩
  case round =>
    obtain ⟨k, q, rfl, hk, hwr⟩ := hrel
    have HWR : Hid _ := hwr
    by_cases hlt : k < m
    · obtain ⟨y, hy⟩ : ∃ y, G k = y := ⟨_, rfl⟩
      have g1 : wr.cell? ⟨b1, o1 + k, none⟩ = some (.int .u8 y) := by rw [hwr, ← hy]; exact H1.out k hlt
      have g2 : wr.cell? ⟨b2, o2 + k, none⟩ = some (.int .u8 y) := by rw [hwr, ← hy]; exact H2.out k hlt
      clear hy hwr
      go_wp2_with fail
      go_quiet (fail)
      go_wp2
      go_roundw
      case rel => exact ⟨k + 1, q + nq, by go_num, by omega, by rw [HWR.out]; simp⟩
      case measure => simp [intOf]; omega
    · clear hwr
      go_wp2
      go_ret
      exact ⟨rfl, q, HWR.out⟩
theorem same_nil (w : World) : Calls Try.prog 11 #[.slice none 0 0, .slice none 0 0] w fun e w' => e = .returned (.bool true) ∧ w = w' := by
  go_enter Try.func11, Try.ntmps11
  go_wp2
  go_loop [5] (fun v => v = .int .i64 0) (fun _ => 0)
  case atStart => rfl
  case round =>
    subst hrel
    go_wp2
    go_ret
    exact ⟨rfl, rfl⟩

theorem off_two (off : Int) (n1 n2 N : Nat) (h : (n1 : Int) + (n2 : Int) = (N : Int)) : wrap64 (wrap64 (off + n1) + n2) = wrap64 (off + N) := by
  unfold wrap64
  omega

set_option maxRecDepth 100000 in
set_option maxHeartbeats 4000000 in
theorem two_nil (off : Int) (b : Bool) (w : World) (hoff : wrap64 off = off) :
    Calls Try.prog 4 #[.slice none 0 0, .int .i64 off, .bool b, .int .i64 0, .int .i64 0] w fun e w' => e = .returned (.bool true) ∧ Below w.heap.size w w' := by
  have hnil := fun w a n c => Lib.run_eql_slice_nil (P := Try.prog) w 22 5 a n c 0 0 Try.underlying22
  have HO : Hid _ := hoff
  clear hoff
  go_enter Try.func4, Try.ntmps4
  go_wp2_with (first | (go_at_call 10; refine (bytes10_yes _ _ _ _ _ _ _ _ (by omega)).mono ?_; rintro e w' ⟨rfl, rfl⟩) | (go_at_call 6; refine (clone_nil _).mono ?_; rintro e w' ⟨rfl, rfl⟩))
  refine (newcur_any none 0 0 off b w).mono ?_
  rintro e w1 ⟨rfl, hw1⟩
  obtain ⟨P, hP⟩ : ∃ P, w.heap.size = P := ⟨_, rfl⟩
  have hs1 : CSt w w1 P none 0 0 off b := by rw [hw1, ← hP]; exact made_cur w w (Below.refl _ _) none 0 0 off b
  rw [hP]
  clear hw1 hP
  go_wp2_with fail
  refine (zzbytes_of P 0 _ w1 _ (bytes_nil hs1 HO.out)).mono ?_
  rintro e w2 ⟨rfl, hs2, _⟩
  clear hs1
  go_wp2_with fail
  refine (zzbytes_of P 0 _ w2 _ (bytes_nil hs2 HO.out)).mono ?_
  rintro e w3 ⟨rfl, hs3, _⟩
  clear hs2
  go_wp2_with fail
  refine (state_any hs3).mono ?_
  rintro e w4 ⟨rfl, q, hw4⟩
  have hb4 : Below w.heap.size w w4 := by rw [hw4]; exact bel_drewN hs3.bel q
  clear hw4 hs3
  go_wp2_with (go_at_call 6; refine (clone_nil _).mono ?_; rintro e w' ⟨rfl, rfl⟩)
  refine (newcur_any none 0 0 off b w4).mono ?_
  rintro e w5 ⟨rfl, hw5⟩
  obtain ⟨P2, hP2⟩ : ∃ P, w4.heap.size = P := ⟨_, rfl⟩
  have hs5 : CSt w w5 P2 none 0 0 off b := by rw [hw5, ← hP2]; exact made_cur w w4 hb4 none 0 0 off b
  rw [hP2]
  clear hw5 hP2 hb4
  go_wp2_with fail
  refine (zzbytes_of P2 0 _ w5 _ (bytes_nil hs5 HO.out)).mono ?_
  rintro e w6 ⟨rfl, hs6, _⟩
  clear hs5
  go_wp2_with fail
  refine (state_any hs6).mono ?_
  rintro e w7 ⟨rfl, q2, hw7⟩
  have hb7 : Below w.heap.size w w7 := by rw [hw7]; exact bel_drewN hs6.bel q2
  clear hw7 hs6
  cases b <;>
  · go_wp2
    go_loop [23] (fun v => v = .int .i64 0) (fun _ => 0)
    case atStart => rfl
    case round =>
      subst hrel
      go_wp2
      go_loop [24] (fun v => v = .int .i64 0) (fun _ => 0)
      case atStart => rfl
      case round =>
        subst hrel
        go_wp2_with fail
        refine (same_nil w7).mono ?_
        rintro e w' ⟨rfl, rfl⟩
        go_wp2
        go_ret
        exact ⟨rfl, hb7⟩
end Go.Proofs.Qxb6603576a
