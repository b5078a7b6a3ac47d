/-
  The cursor's functions: zzCloneBytes (6), ZZnewCursor (7), bytes (12), ZZcursorBytes (8), ZZcursorState (9).
-/
import Derived.Test.Qxb6603576aRows
import Derived.WalkKit
import Derived.WalkSpells
import Derived.WalkLawsBesides
import Derived.Sort.Row
import Derived.Deep.Draws
import Derived.Deep.OwnRows
import Derived.CellFam
import Derived.Deep.QuietTactic
import Derived.BigQuiet
import Derived.Deep.LoopGhost
import Derived.Lib.SliceRun
import Derived.Below
import Derived.OwnWalk
namespace Go.Proofs.Qxb6603576a
open Go.RowKit Go.Sort

theorem Try.info5 : (Try.prog.info? 5).map (fun i => (i.zero, i.size, i.bytes)) = some (some (.int .u8 0), 1, 1) := by kernel_rfl

/-- The cells of a copy of F after k rounds. -/
def cl (F : Nat → Int) (n k : Nat) : Array Value := ((List.range n).map fun t => if t < k then Value.int .u8 (F t) else .int .u8 0).toArray
theorem cl_zero (F : Nat → Int) (n : Nat) : madeCells #[Value.int .u8 0] n = cl F n 0 := by
  unfold cl madeCells
  apply Array.ext_getElem?
  intro t
  by_cases h : t < n <;> simp [h, Nat.mod_one]
theorem cl_get (F : Nat → Int) (n k t : Nat) (h : t < n) : (cl F n k)[t]? = some (if t < k then Value.int .u8 (F t) else .int .u8 0) := by
  unfold cl
  simp [h]
theorem cl_set (F : Nat → Int) (n k : Nat) : (cl F n k).setIfInBounds k (.int .u8 (F k)) = cl F n (k + 1) := by
  apply Array.ext_getElem?
  intro t
  rw [Array.getElem?_setIfInBounds]
  by_cases h : t < n
  · rw [cl_get _ _ _ _ h, cl_get _ _ _ _ h]
    by_cases e : k = t
    · subst e; simp [cl, h]
    · by_cases h2 : t < k
      · simp [e, h2, show t < k + 1 by omega]
      · simp [e, h2, show ¬ t < k + 1 by omega]
  · by_cases e : k = t
    · subst e; simp [cl, h]
    · simp [cl, h, e]

set_option maxHeartbeats 1000000 in
theorem clone_some (b off n cap : Nat) (F : Nat → Int) (w : World) (hn : n ≤ 1048576) (hb : n = 0 ∨ b < w.heap.size) (hc : ∀ j, j < n → w.cell? ⟨b, off + j, none⟩ = some (.int .u8 (F j))) :
    Calls Try.prog 6 #[.slice (some ⟨b, off, none⟩) n cap] w fun e w' => e = .returned (.slice (some ⟨w.heap.size, 0, none⟩) n n) ∧ w' = w.alloc (.cells (cl F n n) 5) := by
  have hmk := run_make_row' (P := Try.prog) 22 5 (.int .u8 0) 1 Try.underlying22 Try.info5 rfl .i64 .i64 n (by omega) (by omega)
  have hnil := fun w a n c => Lib.run_eql_slice_nil (P := Try.prog) w 22 5 a n c 0 0 Try.underlying22
  go_enter Try.func6, Try.ntmps6
  go_wp2
  clear hmk hnil
  go_loopw [4] (fun i wr => ∃ k : Nat, k ≤ n ∧ i = .int .i64 k ∧ wr = w.alloc (.cells (cl F n k) 5)) (fun i _ => n - (intOf i).toNat)
  case atStart => exact ⟨0, Nat.zero_le _, rfl, by rw [cl_zero F n]⟩
  case round =>
    obtain ⟨k, hk, rfl, rfl⟩ := hrel
    by_cases hlt : k < n
    · obtain ⟨x, hx⟩ : ∃ x, F k = x := ⟨_, rfl⟩
      have c1 : w.cell? ⟨b, off + k, none⟩ = some (.int .u8 x) := by rw [← hx]; exact hc k hlt
      have c2 : (cl F n k)[k]? = some (.int .u8 0) := by rw [cl_get F n k k hlt]; simp
      have hbl : b < w.heap.size := by omega
      have HX : Hid (F k = x) := hx
      clear hx hc
      go_wp2
      go_roundw
      case rel => exact ⟨k + 1, by omega, by go_num, by rw [← HX.out, cl_set]⟩
      case measure => simp [intOf]; omega
    · obtain rfl : n = k := by omega
      go_wp2
      go_ret
      exact ⟨rfl, rfl⟩

theorem clone_nil (w : World) : Calls Try.prog 6 #[.slice none 0 0] w fun e w' => e = .returned (.slice none 0 0) ∧ w = w' := by
  have hnil := fun w a n c => Lib.run_eql_slice_nil (P := Try.prog) w 22 5 a n c 0 0 Try.underlying22
  go_enter Try.func6, Try.ntmps6
  go_wp2
  go_ret
  exact ⟨rfl, rfl⟩

set_option maxHeartbeats 400000 in
theorem clone_empty (x : Addr) (cap : Nat) (F : Nat → Int) (w : World) :
    Calls Try.prog 6 #[.slice (some x) 0 cap] w fun e w' => e = .returned (.slice (some ⟨w.heap.size, 0, none⟩) 0 0) ∧ w' = w.alloc (.cells (cl F 0 0) 5) := by
  have hmk := run_make_row' (P := Try.prog) 22 5 (.int .u8 0) 1 Try.underlying22 Try.info5 rfl .i64 .i64 0 (by omega) (by omega)
  have hnil := fun w a n c => Lib.run_eql_slice_nil (P := Try.prog) w 22 5 a n c 0 0 Try.underlying22
  rw [cl_zero F 0] at hmk
  simp only [Int.natCast_zero] at hmk
  go_enter Try.func6, Try.ntmps6
  go_wp2
  clear hmk hnil
  go_loop [4] (fun i => i = .int .i64 0) (fun _ => 0)
  case atStart => rfl
  case round =>
    subst hrel
    go_wp2
    go_ret
    exact ⟨rfl, rfl⟩

theorem newcur_any (a1 : Option Addr) (n1 c1 : Nat) (off : Int) (b : Bool) (w : World) :
    Calls Try.prog 7 #[.slice a1 n1 c1, .int .i64 off, .bool b] w fun e w' => e = .returned (.pointer (some ⟨w.heap.size, 0, none⟩)) ∧ w' = w.alloc (.cells #[.slice a1 n1 c1, .int .i64 off, .bool b] 33) := by
  go_enter Try.func7, Try.ntmps7
  go_wp2
  go_ret
  exact ⟨rfl, rfl⟩

/-- A cursor's struct at P, in a world behind w. -/
structure CSt (w wr : World) (P : Nat) (a : Option Addr) (l c : Nat) (off : Int) (b : Bool) : Prop where
  bel : Below w.heap.size w wr
  hP : w.heap.size ≤ P
  c0 : wr.cell? ⟨P, 0, none⟩ = some (.slice a l c)
  c1 : wr.cell? ⟨P, 1, none⟩ = some (.int .i64 off)
  c2 : wr.cell? ⟨P, 2, none⟩ = some (.bool b)
  f0 : wr.frozen? ⟨P, 0, none⟩ = false
  f1 : wr.frozen? ⟨P, 1, none⟩ = false
  f2 : wr.frozen? ⟨P, 2, none⟩ = false
/-- All but P's block reads as it did. -/
def Fr (P : Nat) (wa wb : World) : Prop := wb.heap.size = wa.heap.size ∧ ∀ k o, k ≠ P → wb.cell? ⟨k, o, none⟩ = wa.cell? ⟨k, o, none⟩
theorem ne_block {p q a b : Nat} (h : q ≠ p) : (⟨p, a, none⟩ : Addr) ≠ ⟨q, b, none⟩ := fun e => h (by injection e with e1; exact e1.symm)
theorem Fr.set {P : Nat} {wa wb : World} (h : Fr P wa wb) (o : Nat) (v : Value) : Fr P wa (wb.setCell ⟨P, o, none⟩ v) :=
  ⟨by rw [← h.1]; simp, fun k t hk => by rw [World.cell?_setCell_other _ _ _ _ (ne_block hk)]; exact h.2 k t hk⟩
theorem Fr.refl (P : Nat) (w : World) : Fr P w w := ⟨rfl, fun _ _ _ => rfl⟩

theorem CSt.set0 {w wr : World} {P : Nat} {a : Option Addr} {l c : Nat} {off : Int} {b : Bool} (h : CSt w wr P a l c off b) (a' : Option Addr) (l' c' : Nat) : CSt w (wr.setCell ⟨P, 0, none⟩ (.slice a' l' c')) P a' l' c' off b := by
  refine ⟨h.bel.setCell h.hP _, h.hP, World.cell?_setCell_same _ _ _ h.c0, ?_, ?_, ?_, ?_, ?_⟩
  · rw [World.cell?_setCell_other _ _ _ _ (by simp)]; exact h.c1
  · rw [World.cell?_setCell_other _ _ _ _ (by simp)]; exact h.c2
  · rw [World.frozen?_setCell]; exact h.f0
  · rw [World.frozen?_setCell]; exact h.f1
  · rw [World.frozen?_setCell]; exact h.f2
theorem CSt.set1 {w wr : World} {P : Nat} {a : Option Addr} {l c : Nat} {off : Int} {b : Bool} (h : CSt w wr P a l c off b) (off' : Int) : CSt w (wr.setCell ⟨P, 1, none⟩ (.int .i64 off')) P a l c off' b := by
  refine ⟨h.bel.setCell h.hP _, h.hP, ?_, World.cell?_setCell_same _ _ _ h.c1, ?_, ?_, ?_, ?_⟩
  · rw [World.cell?_setCell_other _ _ _ _ (by simp)]; exact h.c0
  · rw [World.cell?_setCell_other _ _ _ _ (by simp)]; exact h.c2
  · rw [World.frozen?_setCell]; exact h.f0
  · rw [World.frozen?_setCell]; exact h.f1
  · rw [World.frozen?_setCell]; exact h.f2
theorem CSt.set2 {w wr : World} {P : Nat} {a : Option Addr} {l c : Nat} {off : Int} {b : Bool} (h : CSt w wr P a l c off b) (b' : Bool) : CSt w (wr.setCell ⟨P, 2, none⟩ (.bool b')) P a l c off b' := by
  refine ⟨h.bel.setCell h.hP _, h.hP, ?_, ?_, World.cell?_setCell_same _ _ _ h.c2, ?_, ?_, ?_⟩
  · rw [World.cell?_setCell_other _ _ _ _ (by simp)]; exact h.c0
  · rw [World.cell?_setCell_other _ _ _ _ (by simp)]; exact h.c1
  · rw [World.frozen?_setCell]; exact h.f0
  · rw [World.frozen?_setCell]; exact h.f1
  · rw [World.frozen?_setCell]; exact h.f2

/-- A read that runs past the end. -/
theorem bytes_short {w wr : World} {P : Nat} {a : Option Addr} {l c : Nat} {off : Int} {b : Bool} (h : CSt w wr P a l c off b) (n : Nat) (hn : l < n) :
    Calls Try.prog 12 #[.pointer (some ⟨P, 0, none⟩), .int .i64 n] wr fun e w' => e = .returned (.slice none 0 0) ∧ CSt w w' P none 0 0 off true ∧ Fr P wr w' := by
  have hd : decide (l < n) = true := decide_eq_true hn
  have h0 := h.c0
  have h2 := h.c2
  have f0 := h.f0
  have f2 := h.f2
  have H : Hid _ := h
  clear h
  go_enter Try.func12, Try.ntmps12
  go_wp2
  go_ret
  exact ⟨rfl, (H.out.set0 none 0 0).set2 true, ((Fr.refl P wr).set _ _).set _ _⟩

theorem bytes_ok {w wr : World} {P B o : Nat} {l c : Nat} {off : Int} {b : Bool} (h : CSt w wr P (some ⟨B, o, none⟩) l c off b) (n : Nat) (hn : n ≤ l) (hlc : l ≤ c) :
    Calls Try.prog 12 #[.pointer (some ⟨P, 0, none⟩), .int .i64 n] wr fun e w' => e = .returned (.slice (some ⟨B, o, none⟩) n n) ∧ CSt w w' P (some ⟨B, if c = n then o else o + n, none⟩) (l - n) (c - n) (wrap64 (off + n)) b ∧ Fr P wr w' := by
  have hd : decide (l < n) = false := decide_eq_false (by omega)
  have h0 := h.c0
  have h1 := h.c1
  have f0 := h.f0
  have f1 := h.f1
  have H : Hid _ := h
  clear h
  go_enter Try.func12, Try.ntmps12
  go_wp2
  · go_ret
    subst h
    refine ⟨rfl, ?_, ((Fr.refl P wr).set _ _).set _ _⟩
    first | exact (H.out.set0 _ _ _).set1 _ | simpa using (H.out.set0 (some ⟨B, o, none⟩) (l - c) 0).set1 (wrap64 (off + c))
  · go_ret
    exact ⟨rfl, (H.out.set0 _ _ _).set1 _, ((Fr.refl P wr).set _ _).set _ _⟩

theorem bytes_nil {w wr : World} {P : Nat} {off : Int} {b : Bool} (h : CSt w wr P none 0 0 off b) (hw : wrap64 off = off) :
    Calls Try.prog 12 #[.pointer (some ⟨P, 0, none⟩), .int .i64 0] wr fun e w' => e = .returned (.slice none 0 0) ∧ CSt w w' P none 0 0 off b ∧ Fr P wr w' := by
  have h0 := h.c0
  have h1 := h.c1
  have f0 := h.f0
  have f1 := h.f1
  have H : Hid _ := h
  have HW : Hid _ := hw
  clear h hw
  go_enter Try.func12, Try.ntmps12
  go_wp2
  go_ret
  refine ⟨rfl, ?_, ((Fr.refl P wr).set _ _).set _ _⟩
  have g := (H.out.set0 none 0 0).set1 (wrap64 off)
  rw [HW.out] at g
  simpa [HW.out] using g

/-- Calls of 8 are calls of 12. -/
theorem zzbytes_of (p : Nat) (n : Int) (v : Value) (w : World) (Q : World → Prop) (h : Calls Try.prog 12 #[.pointer (some ⟨p, 0, none⟩), .int .i64 n] w fun e w' => e = .returned v ∧ Q w') :
    Calls Try.prog 8 #[.pointer (some ⟨p, 0, none⟩), .int .i64 n] w fun e w' => e = .returned v ∧ Q w' := by
  have H : Hid _ := h
  clear h
  go_enter Try.func8, Try.ntmps8
  go_wp2_with fail
  refine Calls.mono H.out ?_
  rintro e w' ⟨rfl, hq⟩
  have HQ : Hid _ := hq
  clear hq
  go_wp2
  go_ret
  exact ⟨rfl, HQ.out⟩

theorem state_any {w wr : World} {P : Nat} {a : Option Addr} {l c : Nat} {off : Int} {b : Bool} (h : CSt w wr P a l c off b) :
    Calls Try.prog 9 #[.pointer (some ⟨P, 0, none⟩)] wr fun e w' => e = .returned (.tuple #[.slice a l c, .int .i64 off, .bool b]) ∧ ∃ q, w' = wr.drewN q := by
  have h0 := h.c0
  have h1 := h.c1
  have h2 := h.c2
  clear h
  go_enter Try.func9, Try.ntmps9
  go_wp2_with fail
  go_quiet (fail)
  go_wp2
  go_ret3
  exact ⟨rfl, _, rfl⟩

/-- The bytes F at B. -/
def Row (w : World) (B n : Nat) (F : Nat → Int) : Prop := ∀ j, j < n → w.cell? ⟨B, j, none⟩ = some (.int .u8 (F j))
theorem row_copy (w : World) (F : Nat → Int) (n : Nat) : Row (w.alloc (.cells (cl F n n) 5)) w.heap.size n F := by
  intro t ht
  rw [World.cell?_alloc_at _ _ _ _ rfl, cl_get _ _ _ _ ht, if_pos ht]
theorem Row.alloc {w : World} {B n : Nat} {F : Nat → Int} (h : Row w B n F) (hb : B < w.heap.size) (o : Obj) : Row (w.alloc o) B n F := by
  intro t ht
  rw [World.cell?_alloc_past _ _ _ hb]
  exact h t ht
theorem Row.fr {wa wb : World} {P B n : Nat} {F : Nat → Int} (h : Row wa B n F) (hf : Fr P wa wb) (hb : B ≠ P) : Row wb B n F := by
  intro t ht
  rw [hf.2 B t hb]
  exact h t ht
theorem Row.drewN {w : World} {B n : Nat} {F : Nat → Int} (h : Row w B n F) (q : Nat) : Row (w.drewN q) B n F := h

/-- What came in, as the walks take it. -/
def IsB (w : World) (a : Option Addr) (n : Nat) (F : Nat → Int) : Prop := (a = none ∧ n = 0) ∨ ∃ x, a = some x ∧ ∀ i, i < n → w.cell? (x.add i) = some (.int .u8 (F i))

theorem clone_in (x : Addr) (n cap : Nat) (F : Nat → Int) (w : World) (hn : n ≤ 1048576) (h : ∀ i, i < n → w.cell? (x.add i) = some (.int .u8 (F i))) :
    Calls Try.prog 6 #[.slice (some x) n cap] w fun e w' => e = .returned (.slice (some ⟨w.heap.size, 0, none⟩) n n) ∧ w' = w.alloc (.cells (cl F n n) 5) := by
  by_cases h0 : n = 0
  · subst h0
    exact clone_empty x cap F w
  · obtain ⟨b, off, spot⟩ := x
    have hspot : spot = none := by simpa [Addr.add] using World.cell?_spot (h 0 (by omega))
    subst hspot
    have hc' : ∀ j, j < n → w.cell? ⟨b, off + j, none⟩ = some (.int .u8 (F j)) := fun j hj => by rw [← WideShapes.add_plain]; exact h j hj
    exact clone_some b off n cap F w hn (.inr (World.block_lt_of_cell? _ _ (hc' 0 (by omega)))) hc'

theorem made_cur (w w1 : World) (hb : Below w.heap.size w w1) (a : Option Addr) (l c : Nat) (off : Int) (b : Bool) :
    CSt w (w1.alloc (.cells #[.slice a l c, .int .i64 off, .bool b] 33)) w1.heap.size a l c off b := by
  refine ⟨hb.alloc hb.size _, hb.size, ?_, ?_, ?_, ?_, ?_, ?_⟩
  · rw [World.cell?_alloc_at _ _ _ _ rfl]; rfl
  · rw [World.cell?_alloc_at _ _ _ _ rfl]; rfl
  · rw [World.cell?_alloc_at _ _ _ _ rfl]; rfl
  · rw [World.frozen?_alloc_at _ _ _ _ rfl]
  · rw [World.frozen?_alloc_at _ _ _ _ rfl]
  · rw [World.frozen?_alloc_at _ _ _ _ rfl]
theorem CSt.drewN {w wr : World} {P : Nat} {a : Option Addr} {l c : Nat} {off : Int} {b : Bool} (h : CSt w wr P a l c off b) (q : Nat) : CSt w (wr.drewN q) P a l c off b :=
  ⟨⟨h.bel.os, h.bel.tape, h.bel.output, h.bel.size, h.bel.block⟩, h.hP, h.c0, h.c1, h.c2, h.f0, h.f1, h.f2⟩
theorem bel_drewN {B : Nat} {a w : World} (h : Below B a w) (n : Nat) : Below B a (w.drewN n) := ⟨h.os, h.tape, h.output, h.size, h.block⟩
end Go.Proofs.Qxb6603576a
