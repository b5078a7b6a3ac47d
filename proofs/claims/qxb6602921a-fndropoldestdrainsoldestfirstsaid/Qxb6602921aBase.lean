/-
  Common words of the seat: the contracts of the byte guards and of fClone.
-/
import Derived.Test.Qxb6602921aRows
import Derived.Test.Qxb6602921aNthPlain
import Derived.WalkKit
import Derived.WalkSpells
import Derived.WalkLawsBesides
import Derived.Sort.Row
import Derived.Deep.Draws
import Derived.Deep.OwnRows
import Derived.CellFam
import Derived.Deep.QuietTactic
import Derived.BigQuiet
import Derived.Deep.LoopGhost
namespace Go.Proofs.Qxb6602921a
open Go.RowKit Go.Sort

theorem Try.info25 : (Try.prog.info? 25).map (fun i => (i.zero, i.size, i.bytes)) = some (some (.float .f64 0), 1, 8) := by kernel_rfl
theorem Try.info4 : (Try.prog.info? 4).map (fun i => (i.zero, i.size, i.bytes)) = some (some (.bool false), 1, 1) := by kernel_rfl

/-- A store of a float (the walk's own set has this law for other one-cell kinds). -/
theorem run_store_float {P : Program} {w : World} {a : Addr} {m : Mode} (k : FloatKind) (x : Nat) : (store a (.float k x) m).run P w = stored P w a (.float k x) m := run_store P w a _ m rfl
attribute [local go_sem] run_store_float

/-- The cells of a copy of d after k rounds. -/
def cl (d : Array Nat) (n k : Nat) : Array Value := ((List.range n).map fun t => if t < k then Value.float .f64 d[t]! else .float .f64 0).toArray
theorem cl_zero (d : Array Nat) (n : Nat) : madeCells #[Value.float .f64 0] n = cl d n 0 := by
  unfold cl madeCells
  apply Array.ext_getElem?
  intro t
  by_cases h : t < n <;> simp [h, Nat.mod_one]
theorem cl_get (d : Array Nat) (n k t : Nat) (h : t < n) : (cl d n k)[t]? = some (if t < k then Value.float .f64 d[t]! else .float .f64 0) := by
  unfold cl
  simp [h]
theorem cl_set (d : Array Nat) (n k : Nat) : (cl d n k).setIfInBounds k (.float .f64 d[k]!) = cl d n (k + 1) := by
  apply Array.ext_getElem?
  intro t
  rw [Array.getElem?_setIfInBounds]
  by_cases h : t < n
  · rw [cl_get _ _ _ _ h, cl_get _ _ _ _ h]
    by_cases e : k = t
    · subst e; simp [cl, h]
    · by_cases h2 : t < k
      · simp [e, h2, show t < k + 1 by omega]
      · simp [e, h2, show ¬ t < k + 1 by omega]
  · by_cases e : k = t
    · subst e; simp [cl, h]
    · simp [cl, h, e]

set_option maxHeartbeats 400000 in
theorem clone_some (b off n cap : Nat) (d : Array Nat) (w : World) (hn : n ≤ 1048576) (hb : n = 0 ∨ b < w.heap.size) (hc : ∀ j, j < n → w.cell? ⟨b, off + j, none⟩ = some (.float .f64 d[j]!)) :
    Calls Try.prog 11 #[.slice (some ⟨b, off, none⟩) n cap] w fun e w' => e = .returned (.slice (some ⟨w.heap.size, 0, none⟩) n n) ∧ w' = w.alloc (.cells (cl d n n) 25) := by
  have hmk := run_make_row' (P := Try.prog) 22 25 (.float .f64 0) 8 Try.underlying22 Try.info25 rfl .i64 .i64 n (by omega) (by omega)
  have hnil := fun w a n c => Lib.run_eql_slice_nil (P := Try.prog) w 22 25 a n c 0 0 Try.underlying22
  go_enter Try.func11, Try.ntmps11
  go_wp2
  clear hmk hnil
  go_loopw [4] (fun i wr => ∃ k : Nat, k ≤ n ∧ i = .int .i64 k ∧ wr = w.alloc (.cells (cl d n k) 25)) (fun i _ => n - (intOf i).toNat)
  case atStart => exact ⟨0, Nat.zero_le _, rfl, by rw [cl_zero d n]⟩
  case round =>
    obtain ⟨k, hk, rfl, rfl⟩ := hrel
    by_cases hlt : k < n
    · obtain ⟨x, hx⟩ : ∃ x, d[k]! = x := ⟨_, rfl⟩
      have c1 : w.cell? ⟨b, off + k, none⟩ = some (.float .f64 x) := by rw [← hx]; exact hc k hlt
      have c2 : (cl d n k)[k]? = some (.float .f64 0) := by rw [cl_get d n k k hlt]; simp
      have hbl : b < w.heap.size := by omega
      have HX : Hid (d[k]! = x) := hx
      clear hx hc
      go_wp2
      go_roundw
      case rel => exact ⟨k + 1, by omega, by go_num, by rw [← HX.out, cl_set]⟩
      case measure => simp [intOf]; omega
    · obtain rfl : k = n := by omega
      go_wp2
      go_ret
      exact ⟨rfl, rfl⟩
theorem clone_nil (w : World) : Calls Try.prog 11 #[.slice none 0 0] w fun e w' => e = .returned (.slice none 0 0) ∧ w = w' := by
  have hnil := fun w a n c => Lib.run_eql_slice_nil (P := Try.prog) w 22 25 a n c 0 0 Try.underlying22
  go_enter Try.func11, Try.ntmps11
  go_wp2
  go_ret
  exact ⟨rfl, rfl⟩

set_option maxHeartbeats 400000 in
theorem clone_empty (x : Addr) (cap : Nat) (d : Array Nat) (w : World) :
    Calls Try.prog 11 #[.slice (some x) 0 cap] w fun e w' => e = .returned (.slice (some ⟨w.heap.size, 0, none⟩) 0 0) ∧ w' = w.alloc (.cells (cl d 0 0) 25) := by
  have hmk := run_make_row' (P := Try.prog) 22 25 (.float .f64 0) 8 Try.underlying22 Try.info25 rfl .i64 .i64 0 (by omega) (by omega)
  have hnil := fun w a n c => Lib.run_eql_slice_nil (P := Try.prog) w 22 25 a n c 0 0 Try.underlying22
  rw [cl_zero d 0] at hmk
  simp only [Int.natCast_zero] at hmk
  go_enter Try.func11, Try.ntmps11
  go_wp2
  clear hmk hnil
  go_loop [4] (fun i => i = .int .i64 0) (fun _ => 0)
  case atStart => rfl
  case round =>
    subst hrel
    go_wp2
    go_ret
    exact ⟨rfl, rfl⟩

/-- A slice of floats that came in: nil, or it leads to cells that hold d. -/
def IsFRow (w : World) (a : Option Addr) (len cap : Nat) (d : Array Nat) : Prop :=
  d.size = len ∧ ((a = none ∧ len = 0 ∧ cap = 0) ∨ ∃ x, a = some x ∧ ∀ i, i < len → w.cell? (x.add i) = some (.float .f64 d[i]!))

/-- What fClone answers at whatever slice. -/
theorem clone_row (a : Option Addr) (n cap : Nat) (d : Array Nat) (w : World) (hn : n ≤ 1048576) (h : IsFRow w a n cap d) :
    Calls Try.prog 11 #[.slice a n cap] w fun e w' => (a = none ∧ n = 0 ∧ e = .returned (.slice none 0 0) ∧ w = w') ∨ (a.isSome = true ∧ e = .returned (.slice (some ⟨w.heap.size, 0, none⟩) n n) ∧ w' = w.alloc (.cells (cl d n n) 25)) := by
  obtain ⟨hd, ⟨rfl, rfl, rfl⟩ | ⟨x, rfl, hc⟩⟩ := h
  · exact (clone_nil w).mono fun e w' ⟨h1, h2⟩ => .inl ⟨rfl, rfl, h1, h2⟩
  · by_cases h0 : n = 0
    · subst h0
      exact (clone_empty x cap d w).mono fun e w' ⟨h1, h2⟩ => .inr ⟨rfl, h1, h2⟩
    · obtain ⟨b, off, spot⟩ := x
      have hspot : spot = none := by simpa [Addr.add] using World.cell?_spot (hc 0 (by omega))
      subst hspot
      have hc' : ∀ j, j < n → w.cell? ⟨b, off + j, none⟩ = some (.float .f64 d[j]!) := fun j hj => by rw [← WideShapes.add_plain]; exact hc j hj
      exact (clone_some b off n cap d w hn (.inr (World.block_lt_of_cell? _ _ (hc' 0 (by omega)))) hc').mono fun e w' ⟨h1, h2⟩ => .inr ⟨rfl, h1, h2⟩

theorem bytes22_yes (a : Option Addr) (n cap : Nat) (w : World) (hn : n ≤ 1048576) : Calls Try.prog 22 #[.slice a n cap] w fun e w' => e = .returned (.bool true) ∧ w = w' := by
  go_enter Try.func22, Try.ntmps22
  go_wp2
  go_ret
  exact ⟨rfl, rfl⟩
theorem bytes22_no (a : Option Addr) (n cap : Nat) (w : World) (hn : 1048576 < n) : Calls Try.prog 22 #[.slice a n cap] w fun e w' => e = .returned (.bool false) ∧ w = w' := by
  go_enter Try.func22, Try.ntmps22
  go_wp2
  go_ret
  exact ⟨rfl, rfl⟩
end Go.Proofs.Qxb6602921a
