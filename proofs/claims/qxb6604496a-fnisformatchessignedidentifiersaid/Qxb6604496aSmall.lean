/-
  The small functions: addBytes (13), stringsBytes (17), startsWithMinus (7), signedOf (10), cloneStrings (15).
-/
import Derived.Test.Qxb6604496aRows
import Derived.WalkKit
import Derived.WalkSpells
import Derived.WalkLawsBesides
import Derived.Sort.Row
import Derived.Deep.Draws
import Derived.Deep.OwnRows
import Derived.CellFam
import Derived.Deep.QuietTactic
import Derived.BigQuiet
import Derived.Deep.LoopGhost
import Derived.Lib.SliceRun
import Derived.Below
import Derived.OwnWalk
import Derived.Handy
namespace Go.Proofs.Qxb6604496a
open Go.RowKit Go.Sort

/-- addBytes. -/
def adB (t n : Nat) : Nat := if 1048576 < t ∨ 1048576 < n then 1048577 else t + n
theorem adB_le (t n : Nat) : adB t n ≤ 2097152 := by
  unfold adB
  split <;> omega

theorem addBytes_any (t n : Nat) (w : World) (ht : t ≤ 2097152) : Calls Try.prog 13 #[.int .i64 t, .int .i64 n] w fun e w' => e = .returned (.int .i64 (adB t n)) ∧ w = w' := by
  by_cases h1 : 1048576 < t
  · have hd : decide ((1048576 : Int) < (t : Int)) = true := decide_eq_true (by omega)
    have hr : Hid (adB t n = 1048577) := if_pos (.inl h1)
    go_enter Try.func13, Try.ntmps13
    go_wp2
    go_ret
    rw [hr.out]
    exact ⟨rfl, rfl⟩
  · have hd : decide ((1048576 : Int) < (t : Int)) = false := decide_eq_false (by omega)
    by_cases h2 : 1048576 < n
    · have hd2 : decide ((1048576 : Int) < (n : Int)) = true := decide_eq_true (by omega)
      have hr : Hid (adB t n = 1048577) := if_pos (.inr h2)
      go_enter Try.func13, Try.ntmps13
      go_wp2
      go_ret
      rw [hr.out]
      exact ⟨rfl, rfl⟩
    · have hd2 : decide ((1048576 : Int) < (n : Int)) = false := decide_eq_false (by omega)
      have hr : Hid (adB t n = t + n) := if_neg (by omega)
      go_enter Try.func13, Try.ntmps13
      go_wp2
      go_ret
      rw [hr.out]
      exact ⟨by simp, rfl⟩

/-- stringsBytes behind k rounds. -/
def strK (t n : Nat) (L : Nat → Nat) : Nat → Nat
  | 0 => adB t (16 * n)
  | k + 1 => adB (strK t n L k) (L k)
theorem strK_le (t n : Nat) (L : Nat → Nat) (k : Nat) : strK t n L k ≤ 2097152 := by
  cases k <;> exact adB_le _ _
def strB (t n : Nat) (L : Nat → Nat) : Nat := if 1048576 < n then 1048577 else strK t n L n
theorem strB_le (t n : Nat) (L : Nat → Nat) : strB t n L ≤ 2097152 := by
  unfold strB
  split
  · omega
  · exact strK_le _ _ _ _

/-- The strings of a slice that is not nil. -/
def SRow (w : World) (b off n : Nat) (S : Nat → ByteArray) : Prop := ∀ j, j < n → w.cell? ⟨b, off + j, none⟩ = some (.string (S j))

set_option maxHeartbeats 1000000 in
theorem stringsBytes_some (t b off n cap : Nat) (S : Nat → ByteArray) (w : World) (ht : t ≤ 2097152) (hc : SRow w b off n S) :
    Calls Try.prog 17 #[.int .i64 t, .slice (some ⟨b, off, none⟩) n cap] w fun e w' => e = .returned (.int .i64 (strB t n fun i => (S i).size)) ∧ w = w' := by
  by_cases h1 : 1048576 < n
  · have hd : decide ((1048576 : Int) < (n : Int)) = true := decide_eq_true (by omega)
    have hr : Hid (strB t n (fun i => (S i).size) = 1048577) := if_pos h1
    go_enter Try.func17, Try.ntmps17
    go_wp2
    go_ret
    rw [hr.out]
    exact ⟨rfl, rfl⟩
  · have hd : decide ((1048576 : Int) < (n : Int)) = false := decide_eq_false (by omega)
    have hr : Hid (strB t n (fun i => (S i).size) = strK t n (fun i => (S i).size) n) := if_neg h1
    have HC : Hid _ := hc
    clear hc
    have c0 := addBytes_any t (16 * n)
    have C0 : Hid _ := c0
    clear c0
    go_enter Try.func17, Try.ntmps17
    go_wp2_with fail
    refine (show Calls Try.prog 13 #[.int .i64 t, .int .i64 (16 * (n : Int))] w _ by simpa using C0.out w ht).mono ?_
    rintro e w' ⟨rfl, rfl⟩
    go_wp2
    go_loop [0, 5] (fun v0 v5 => ∃ k : Nat, v0 = .int .i64 (strK t n (fun i => (S i).size) k) ∧ v5 = .int .i64 k ∧ k ≤ n) (fun _ v => n - (intOf v).toNat)
    case atStart => exact ⟨0, rfl, rfl, Nat.zero_le _⟩
    case round =>
      obtain ⟨k, rfl, rfl, hk⟩ := hrel
      by_cases hlt : k < n
      · have cx := HC.out k hlt
        have hle := strK_le t n (fun i => (S i).size) k
        have hstep : Hid (strK t n (fun i => (S i).size) (k + 1) = adB (strK t n (fun i => (S i).size) k) (S k).size) := rfl
        generalize strK t n (fun i => (S i).size) k = u at hle hstep ⊢
        generalize S k = s at cx hstep
        go_wp2_with fail
        refine (addBytes_any u s.size w hle).mono ?_
        rintro e w' ⟨rfl, rfl⟩
        go_wp2
        go_round
        case rel => exact ⟨k + 1, by rw [hstep.out], by go_num, by omega⟩
        case measure => simp [intOf]; omega
      · obtain rfl : n = k := by omega
        go_wp2
        go_ret
        rw [hr.out]
        exact ⟨rfl, rfl⟩

/-- A slice of strings, as the walks take it. -/
def IsS (w : World) (a : Option Addr) (n : Nat) (S : Nat → ByteArray) : Prop := n = 0 ∨ ∃ b off, a = some ⟨b, off, none⟩ ∧ b < w.heap.size ∧ SRow w b off n S
theorem IsS.below {w w' : World} {a : Option Addr} {n : Nat} {S : Nat → ByteArray} (h : IsS w a n S) (hb : Below w.heap.size w w') : IsS w' a n S := by
  rcases h with h | ⟨b, off, ha, hlt, hr⟩
  · exact .inl h
  · exact .inr ⟨b, off, ha, Nat.lt_of_lt_of_le hlt hb.size, fun j hj => (hb.cell (show b < _ from hlt)).trans (hr j hj)⟩

set_option maxHeartbeats 1000000 in
theorem stringsBytes_zero (t cap : Nat) (a : Option Addr) (S : Nat → ByteArray) (w : World) (ht : t ≤ 2097152) :
    Calls Try.prog 17 #[.int .i64 t, .slice a 0 cap] w fun e w' => e = .returned (.int .i64 (strB t 0 fun i => (S i).size)) ∧ w = w' := by
  have hr : Hid (strB t 0 (fun i => (S i).size) = adB t 0) := rfl
  go_enter Try.func17, Try.ntmps17
  go_wp2_with fail
  refine (addBytes_any t 0 w ht).mono ?_
  rintro e w' ⟨rfl, rfl⟩
  go_wp2
  go_loop [0, 5] (fun v0 v5 => v0 = .int .i64 (adB t 0) ∧ v5 = .int .i64 0) (fun _ _ => 0)
  case atStart => exact ⟨rfl, rfl⟩
  case round =>
    obtain ⟨rfl, rfl⟩ := hrel
    go_wp2
    go_ret
    rw [hr.out]
    exact ⟨rfl, rfl⟩
theorem stringsBytes_any (t n cap : Nat) (a : Option Addr) (S : Nat → ByteArray) (w : World) (ht : t ≤ 2097152) (h : IsS w a n S) :
    Calls Try.prog 17 #[.int .i64 t, .slice a n cap] w fun e w' => e = .returned (.int .i64 (strB t n fun i => (S i).size)) ∧ w = w' := by
  rcases h with rfl | ⟨b, off, rfl, _, hr⟩
  · exact stringsBytes_zero t cap a S w ht
  · exact stringsBytes_some t b off n cap S w ht hr

theorem Try.info9 : (Try.prog.info? 9).map (fun i => (i.zero, i.size, i.bytes)) = some (some (.string ⟨#[]⟩), 1, 16) := by kernel_rfl
/-- The cells of a copy of S after k rounds. -/
def cl (S : Nat → ByteArray) (n k : Nat) : Array Value := ((List.range n).map fun t => if t < k then Value.string (S t) else .string ⟨#[]⟩).toArray
theorem cl_zero (S : Nat → ByteArray) (n : Nat) : madeCells #[Value.string ⟨#[]⟩] n = cl S n 0 := by
  unfold cl madeCells
  apply Array.ext_getElem?
  intro t
  by_cases h : t < n <;> simp [h, Nat.mod_one]
theorem cl_get (S : Nat → ByteArray) (n k t : Nat) (h : t < n) : (cl S n k)[t]? = some (if t < k then Value.string (S t) else .string ⟨#[]⟩) := by
  unfold cl
  simp [h]
theorem cl_set (S : Nat → ByteArray) (n k : Nat) : (cl S n k).setIfInBounds k (.string (S k)) = cl S n (k + 1) := by
  apply Array.ext_getElem?
  intro t
  rw [Array.getElem?_setIfInBounds]
  by_cases h : t < n
  · rw [cl_get _ _ _ _ h, cl_get _ _ _ _ h]
    by_cases e : k = t
    · subst e; simp [cl, h]
    · by_cases h2 : t < k
      · simp [e, h2, show t < k + 1 by omega]
      · simp [e, h2, show ¬ t < k + 1 by omega]
  · by_cases e : k = t
    · subst e; simp [cl, h]
    · simp [cl, h, e]

set_option maxHeartbeats 1000000 in
theorem clone_some (b off n cap : Nat) (S : Nat → ByteArray) (w : World) (hn : n ≤ 1048576) (hb : b < w.heap.size) (hc : SRow w b off n S) :
    Calls Try.prog 15 #[.slice (some ⟨b, off, none⟩) n cap] w fun e w' => e = .returned (.slice (some ⟨w.heap.size, 0, none⟩) n n) ∧ w' = w.alloc (.cells (cl S n n) 9) := by
  have hmk := run_make_row' (P := Try.prog) 23 9 (.string ⟨#[]⟩) 16 Try.underlying23 Try.info9 rfl .i64 .i64 n (by omega) (by omega)
  have hnil := fun w a n c => Lib.run_eql_slice_nil (P := Try.prog) w 23 9 a n c 0 0 Try.underlying23
  have HC : Hid _ := hc
  clear hc
  go_enter Try.func15, Try.ntmps15
  go_wp2
  clear hmk hnil
  go_loopw [4] (fun i wr => ∃ k : Nat, k ≤ n ∧ i = .int .i64 k ∧ wr = w.alloc (.cells (cl S n k) 9)) (fun i _ => n - (intOf i).toNat)
  case atStart => exact ⟨0, Nat.zero_le _, rfl, by rw [cl_zero S n]⟩
  case round =>
    obtain ⟨k, hk, rfl, rfl⟩ := hrel
    by_cases hlt : k < n
    · have c1 := HC.out k hlt
      have c2 : (cl S n k)[k]? = some (.string ⟨#[]⟩) := by rw [cl_get S n k k hlt]; simp
      have hset : Hid ((cl S n k).setIfInBounds k (.string (S k)) = cl S n (k + 1)) := cl_set S n k
      generalize S k = s at c1 hset
      go_wp2
      go_roundw
      case rel => exact ⟨k + 1, by omega, by go_num, by rw [hset.out]⟩
      case measure => simp [intOf]; omega
    · obtain rfl : n = k := by omega
      go_wp2
      go_ret
      exact ⟨rfl, rfl⟩
theorem clone_nil (w : World) : Calls Try.prog 15 #[.slice none 0 0] w fun e w' => e = .returned (.slice none 0 0) ∧ w = w' := by
  have hnil := fun w a n c => Lib.run_eql_slice_nil (P := Try.prog) w 23 9 a n c 0 0 Try.underlying23
  go_enter Try.func15, Try.ntmps15
  go_wp2
  go_ret
  exact ⟨rfl, rfl⟩
set_option maxHeartbeats 400000 in
theorem clone_empty (x : Addr) (cap : Nat) (S : Nat → ByteArray) (w : World) :
    Calls Try.prog 15 #[.slice (some x) 0 cap] w fun e w' => e = .returned (.slice (some ⟨w.heap.size, 0, none⟩) 0 0) ∧ w' = w.alloc (.cells (cl S 0 0) 9) := by
  have hmk := run_make_row' (P := Try.prog) 23 9 (.string ⟨#[]⟩) 16 Try.underlying23 Try.info9 rfl .i64 .i64 0 (by omega) (by omega)
  have hnil := fun w a n c => Lib.run_eql_slice_nil (P := Try.prog) w 23 9 a n c 0 0 Try.underlying23
  rw [cl_zero S 0] at hmk
  simp only [Int.natCast_zero] at hmk
  go_enter Try.func15, Try.ntmps15
  go_wp2
  clear hmk hnil
  go_loop [4] (fun i => i = .int .i64 0) (fun _ => 0)
  case atStart => rfl
  case round =>
    subst hrel
    go_wp2
    go_ret
    exact ⟨rfl, rfl⟩
/-- What cloneStrings answers, as far as the law looks. -/
theorem clone_any (a : Option Addr) (n cap : Nat) (S : Nat → ByteArray) (w : World) (hn : n ≤ 1048576) (hc : a = none → n = 0 ∧ cap = 0) (h : IsS w a n S) :
    Calls Try.prog 15 #[.slice a n cap] w fun e w' => ∃ (a' : Option Addr) (n' c' : Nat), e = .returned (.slice a' n' c') ∧ (w = w' ∨ ∃ o, w' = w.alloc o) := by
  cases a with
  | none =>
    obtain ⟨rfl, rfl⟩ := hc rfl
    refine (clone_nil w).mono ?_
    rintro e w' ⟨rfl, rfl⟩
    exact ⟨_, _, _, rfl, .inl rfl⟩
  | some x =>
    rcases h with rfl | ⟨b, off, ha, hb, hr⟩
    · refine (clone_empty x cap S w).mono ?_
      rintro e w' ⟨rfl, rfl⟩
      exact ⟨_, _, _, rfl, .inr ⟨_, rfl⟩⟩
    · obtain rfl : x = ⟨b, off, none⟩ := by injection ha
      refine (clone_some b off n cap S w hn hb hr).mono ?_
      rintro e w' ⟨rfl, rfl⟩
      exact ⟨_, _, _, rfl, .inr ⟨_, rfl⟩⟩

/-- signedOf. -/
def sg (s : ByteArray) (b : Bool) : ByteArray := if b then ⟨#[45]⟩ ++ s else s
theorem signedOf_any (s : ByteArray) (b : Bool) (w : World) (hs : s.size ≤ 1048576) : Calls Try.prog 10 #[.string s, .bool b] w fun e w' => e = .returned (.string (sg s b)) ∧ w = w' := by
  cases b
  · go_enter Try.func10, Try.ntmps10
    go_wp2
    go_ret
    exact ⟨rfl, rfl⟩
  · go_enter Try.func10, Try.ntmps10
    go_wp2
    go_ret
    exact ⟨rfl, rfl⟩

/-- startsWithMinus. -/
def sm (s : ByteArray) : Bool := if h : 0 < s.size then ((s[0].toNat : Int) == 45) else false
theorem startsWithMinus_any (s : ByteArray) (w : World) : Calls Try.prog 7 #[.string s] w fun e w' => e = .returned (.bool (sm s)) ∧ w = w' := by
  by_cases h : 0 < s.size
  · have hr : Hid (sm s = ((s[0].toNat : Int) == 45)) := dif_pos h
    go_enter Try.func7, Try.ntmps7
    go_wp2
    go_ret
    rw [hr.out]
    exact ⟨rfl, rfl⟩
  · have hr : Hid (sm s = false) := dif_neg h
    go_enter Try.func7, Try.ntmps7
    go_wp2
    go_ret
    rw [hr.out]
    exact ⟨rfl, rfl⟩

/-- '==' of strings, as the walk shows it. -/
def seq (x y : ByteArray) : Bool := x.toList == y.toList
theorem seq_iff (x y : ByteArray) : seq x y = true ↔ x.data.toList = y.data.toList := by
  unfold seq
  rw [beq_iff_eq, ByteArray.toList_eq, ByteArray.toList_eq]
theorem sm_cons (s t : ByteArray) (h : s.data.toList = 45 :: t.data.toList) : sm s = true := by
  have hsz : s.size = t.data.toList.length + 1 := by
    have : s.data.toList.length = t.data.toList.length + 1 := by rw [h]; rfl
    simpa using this
  have h0 : 0 < s.size := by omega
  unfold sm
  rw [dif_pos h0]
  have e : s[0] = 45 := by
    have g : s.data.toList[0]? = some 45 := by rw [h]; rfl
    have h1 : 0 < s.data.size := h0
    have g2 : s.data[0]? = some 45 := by simpa using g
    rw [Array.getElem?_eq_getElem h1] at g2
    have g3 : s.data[0] = 45 := by injection g2
    exact g3
  rw [e]
  rfl
theorem sg_data (s : ByteArray) (b : Bool) : (sg s b).data.toList = if b then 45 :: s.data.toList else s.data.toList := by
  cases b
  · rfl
  · show (ByteArray.mk #[45] ++ s).data.toList = _
    rw [ByteArray.toList_data_append]
    rfl
/-- THE LAW's CORE. -/
theorem core (a b : ByteArray) (p q : Bool) (ha : sm a = false) (hb : sm b = false) : seq (sg a p) (sg b q) = (seq a b && (p == q)) := by
  rw [Bool.eq_iff_iff, Bool.and_eq_true, seq_iff, seq_iff, sg_data, sg_data]
  cases p <;> cases q
  · simp
  · simp
    intro h
    rw [sm_cons a b h] at ha
    cases ha
  · simp
    intro h
    rw [sm_cons b a h.symm] at hb
    cases hb
  · simp
end Go.Proofs.Qxb6604496a
