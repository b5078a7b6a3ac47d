/-
  The walk of the law FnDropOldestKeepsSortedView (8).
-/
import Derived.Test.Qxb6602921aQueue
import Derived.Test.Qxb6602921aSel
namespace Go.Proofs.Qxb6602921a
open Go.RowKit Go.Sort

theorem bytes23_yes (a1 a2 : Option Addr) (n1 c1 n2 c2 : Nat) (b : Bool) (w : World) (hn : n1 + n2 ≤ 1048576) : Calls Try.prog 23 #[.slice a1 n1 c1, .slice a2 n2 c2, .bool b] w fun e w' => e = .returned (.bool true) ∧ w = w' := by
  go_enter Try.func23, Try.ntmps23
  go_wp2
  go_ret
  exact ⟨rfl, rfl⟩
theorem bytes23_no (a1 a2 : Option Addr) (n1 c1 n2 c2 : Nat) (b : Bool) (w : World) (hn : 1048576 < n1 + n2) : Calls Try.prog 23 #[.slice a1 n1 c1, .slice a2 n2 c2, .bool b] w fun e w' => e = .returned (.bool false) ∧ w = w' := by
  by_cases h1 : 1048576 < n1
  · go_enter Try.func23, Try.ntmps23
    go_wp2
    go_ret
    exact ⟨rfl, rfl⟩
  · by_cases h2 : 1048576 < n2
    · go_enter Try.func23, Try.ntmps23
      go_wp2
      go_ret
      exact ⟨rfl, rfl⟩
    · go_enter Try.func23, Try.ntmps23
      go_wp2
      go_ret
      exact ⟨rfl, rfl⟩

theorem keep_out (a1 a2 : Option Addr) (n1 c1 n2 c2 : Nat) (b : Bool) (w : World) (h : 65536 < n1 ∨ 65536 < n2 ∨ n1 = 0) :
    Calls Try.prog 8 #[.slice a1 n1 c1, .slice a2 n2 c2, .bool b] w fun e w' => e = .returned (.bool true) ∧ Below w.heap.size w w' := by
  by_cases hb : n1 + n2 ≤ 1048576
  · by_cases h1 : 65536 < n1
    · clear h
      go_enter Try.func8, Try.ntmps8
      go_wp2_with (go_at_call 23; refine (bytes23_yes a1 a2 n1 c1 n2 c2 b _ hb).mono ?_; rintro e w' ⟨rfl, rfl⟩)
      go_ret
      exact ⟨rfl, Below.refl _ _⟩
    · by_cases h2 : 65536 < n2
      · clear h
        go_enter Try.func8, Try.ntmps8
        go_wp2_with (go_at_call 23; refine (bytes23_yes a1 a2 n1 c1 n2 c2 b _ hb).mono ?_; rintro e w' ⟨rfl, rfl⟩)
        go_ret
        exact ⟨rfl, Below.refl _ _⟩
      · obtain rfl : n1 = 0 := by omega
        clear h h1
        go_enter Try.func8, Try.ntmps8
        go_wp2_with (go_at_call 23; refine (bytes23_yes a1 a2 0 c1 n2 c2 b _ hb).mono ?_; rintro e w' ⟨rfl, rfl⟩)
        go_ret
        exact ⟨rfl, Below.refl _ _⟩
  · clear h
    go_enter Try.func8, Try.ntmps8
    go_wp2_with (go_at_call 23; refine (bytes23_no a1 a2 n1 c1 n2 c2 b _ (by omega)).mono ?_; rintro e w' ⟨rfl, rfl⟩)
    go_ret
    exact ⟨rfl, Below.refl _ _⟩

/-- A view of another length: the law says nothing. -/
theorem keep_ne (a1 : Option Addr) (x2 : Addr) (n1 c1 n2 c2 : Nat) (b : Bool) (w : World) (h0 : 0 < n1) (h1 : n1 ≤ 65536) (h2 : n2 ≤ 65536) (hne : n2 ≠ n1) :
    Calls Try.prog 8 #[.slice a1 n1 c1, .slice (some x2) n2 c2, .bool b] w fun e w' => e = .returned (.bool true) ∧ Below w.heap.size w w' := by
  have hnil := fun w a n c => Lib.run_eql_slice_nil (P := Try.prog) w 22 25 a n c 0 0 Try.underlying22
  go_enter Try.func8, Try.ntmps8
  go_wp2_with (first | (go_at_call 23; refine (bytes23_yes a1 (some x2) n1 c1 n2 c2 b _ (by omega)).mono ?_; rintro e w' ⟨rfl, rfl⟩) | (go_at_call 24; refine (sv_ne (some x2) a1 n2 c2 n1 c1 _ hne).mono ?_; rintro e w' ⟨rfl, rfl⟩))
  go_ret
  exact ⟨rfl, Below.refl _ _⟩

theorem isFRow_below {w w' : World} {a : Option Addr} {n c : Nat} {d : Array Nat} (h : IsFRow w a n c d) (hb : Below w.heap.size w w') : IsFRow w' a n c d := by
  obtain ⟨h1, h2 | ⟨x, rfl, hx⟩⟩ := h
  · exact ⟨h1, .inl h2⟩
  · refine ⟨h1, .inr ⟨x, rfl, fun i hi => ?_⟩⟩
    have g := hx i hi
    rw [hb.cell (World.block_lt_of_cell? _ _ g)]
    exact g

/-- The struct as it is made: the queue's clone, the view's clone, the old row's copy. -/
theorem made_some (w w1 : World) (hb : Below w.heap.size w w1) (n : Nat) (d s : Array Nat) (hd : d.size = n) (hs : s.size = n) (b : Bool) (hv : View n s d) :
    QSt w ((((w1.alloc (.cells (cl d n n) 25)).alloc (.cells (cl s n n) 25)).alloc (.cells (cl d n n) 25)).alloc (.cells #[.slice (some ⟨w1.heap.size, 0, none⟩) n n, .slice (some ⟨w1.heap.size + 1, 0, none⟩) n n, .bool b] 42)) (w1.heap.size + 3) w1.heap.size (w1.heap.size + 2) n 0 d b
    ∧ VSt w ((((w1.alloc (.cells (cl d n n) 25)).alloc (.cells (cl s n n) 25)).alloc (.cells (cl d n n) 25)).alloc (.cells #[.slice (some ⟨w1.heap.size, 0, none⟩) n n, .slice (some ⟨w1.heap.size + 1, 0, none⟩) n n, .bool b] 42)) (w1.heap.size + 3) w1.heap.size (w1.heap.size + 2) (w1.heap.size + 1) n 0 d s := by
  have hsz := hb.size
  have H1 := holds_copy w1 d n hd
  have z1 : (w1.alloc (.cells (cl d n n) 25)).heap.size = w1.heap.size + 1 := by simp
  have b1 : Below w.heap.size w (w1.alloc (.cells (cl d n n) 25)) := hb.alloc hsz _
  generalize w1.alloc (.cells (cl d n n) 25) = w2 at H1 z1 b1 ⊢
  have H1' := holds_alloc (.cells (cl s n n) 25) (by omega) H1
  have H2 := holds_copy w2 s n hs
  rw [z1] at H2
  have z2 : (w2.alloc (.cells (cl s n n) 25)).heap.size = w1.heap.size + 2 := by simp [z1]
  have b2 : Below w.heap.size w (w2.alloc (.cells (cl s n n) 25)) := b1.alloc (by omega) _
  generalize w2.alloc (.cells (cl s n n) 25) = w3 at H1' H2 z2 b2 ⊢
  have H1'' := holds_alloc (.cells (cl d n n) 25) (by omega) H1'
  have H2' := holds_alloc (.cells (cl d n n) 25) (by omega) H2
  have H3 := holds_copy w3 d n hd
  rw [z2] at H3
  have z3 : (w3.alloc (.cells (cl d n n) 25)).heap.size = w1.heap.size + 3 := by simp [z2]
  have b3 : Below w.heap.size w (w3.alloc (.cells (cl d n n) 25)) := b2.alloc (by omega) _
  generalize w3.alloc (.cells (cl d n n) 25) = w4 at H1'' H2' H3 z3 b3 ⊢
  clear H1 H1' H2 z1 z2 b1 b2
  generalize ho : Obj.cells #[.slice (some ⟨w1.heap.size, 0, none⟩) n n, .slice (some ⟨w1.heap.size + 1, 0, none⟩) n n, .bool b] 42 = o
  have A := holds_alloc o (by omega) H1''
  have B := holds_alloc o (by omega) H2'
  have C := holds_alloc o (by omega) H3
  have b4 : Below w.heap.size w (w4.alloc o) := b3.alloc (by omega) _
  have k0 : (w4.alloc o).cell? ⟨w1.heap.size + 3, 0, none⟩ = some (.slice (some ⟨w1.heap.size, 0, none⟩) n n) := by
    rw [← ho, World.cell?_alloc_at _ _ _ _ (by simp [z3])]; rfl
  have k1 : (w4.alloc o).cell? ⟨w1.heap.size + 3, 1, none⟩ = some (.slice (some ⟨w1.heap.size + 1, 0, none⟩) n n) := by
    rw [← ho, World.cell?_alloc_at _ _ _ _ (by simp [z3])]; rfl
  have k2 : (w4.alloc o).cell? ⟨w1.heap.size + 3, 2, none⟩ = some (.bool b) := by
    rw [← ho, World.cell?_alloc_at _ _ _ _ (by simp [z3])]; rfl
  have f0 : (w4.alloc o).frozen? ⟨w1.heap.size + 3, 0, none⟩ = false := by
    rw [← ho, World.frozen?_alloc_at _ _ _ _ (by simp [z3])]
  have f1 : (w4.alloc o).frozen? ⟨w1.heap.size + 3, 1, none⟩ = false := by
    rw [← ho, World.frozen?_alloc_at _ _ _ _ (by simp [z3])]
  refine ⟨⟨b4, by omega, by omega, by omega, f0, f1, ⟨0, fun _ => rfl, k0⟩, k2, fun t ht => ?_, fun t ht => ?_⟩, ⟨by omega, by omega, by omega, by omega, k1, B, by rw [dr_zero]; exact hv⟩⟩
  · have g := (A t (by omega)).1
    rw [Nat.zero_add] at g
    exact g
  · have g := (C t (by omega)).1
    rw [Nat.zero_add] at g
    exact g
/-- .. where the view is nil. -/
theorem made_nil (w w1 : World) (hb : Below w.heap.size w w1) (n : Nat) (d : Array Nat) (hd : d.size = n) (b : Bool) :
    QSt w (((w1.alloc (.cells (cl d n n) 25)).alloc (.cells (cl d n n) 25)).alloc (.cells #[.slice (some ⟨w1.heap.size, 0, none⟩) n n, .slice none 0 0, .bool b] 42)) (w1.heap.size + 2) w1.heap.size (w1.heap.size + 1) n 0 d b
    ∧ (((w1.alloc (.cells (cl d n n) 25)).alloc (.cells (cl d n n) 25)).alloc (.cells #[.slice (some ⟨w1.heap.size, 0, none⟩) n n, .slice none 0 0, .bool b] 42)).cell? ⟨w1.heap.size + 2, 1, none⟩ = some (.slice none 0 0) := by
  have hsz := hb.size
  have H1 := holds_copy w1 d n hd
  have z1 : (w1.alloc (.cells (cl d n n) 25)).heap.size = w1.heap.size + 1 := by simp
  have b1 : Below w.heap.size w (w1.alloc (.cells (cl d n n) 25)) := hb.alloc hsz _
  generalize w1.alloc (.cells (cl d n n) 25) = w3 at H1 z1 b1 ⊢
  have H1'' := holds_alloc (.cells (cl d n n) 25) (by omega) H1
  have H3 := holds_copy w3 d n hd
  rw [z1] at H3
  have z3 : (w3.alloc (.cells (cl d n n) 25)).heap.size = w1.heap.size + 2 := by simp [z1]
  have b3 : Below w.heap.size w (w3.alloc (.cells (cl d n n) 25)) := b1.alloc (by omega) _
  generalize w3.alloc (.cells (cl d n n) 25) = w4 at H1'' H3 z3 b3 ⊢
  clear H1 z1 b1
  generalize ho : Obj.cells #[.slice (some ⟨w1.heap.size, 0, none⟩) n n, .slice none 0 0, .bool b] 42 = o
  have A := holds_alloc o (by omega) H1''
  have C := holds_alloc o (by omega) H3
  have b4 : Below w.heap.size w (w4.alloc o) := b3.alloc (by omega) _
  have k0 : (w4.alloc o).cell? ⟨w1.heap.size + 2, 0, none⟩ = some (.slice (some ⟨w1.heap.size, 0, none⟩) n n) := by
    rw [← ho, World.cell?_alloc_at _ _ _ _ (by simp [z3])]; rfl
  have k1 : (w4.alloc o).cell? ⟨w1.heap.size + 2, 1, none⟩ = some (.slice none 0 0) := by
    rw [← ho, World.cell?_alloc_at _ _ _ _ (by simp [z3])]; rfl
  have k2 : (w4.alloc o).cell? ⟨w1.heap.size + 2, 2, none⟩ = some (.bool b) := by
    rw [← ho, World.cell?_alloc_at _ _ _ _ (by simp [z3])]; rfl
  have f0 : (w4.alloc o).frozen? ⟨w1.heap.size + 2, 0, none⟩ = false := by
    rw [← ho, World.frozen?_alloc_at _ _ _ _ (by simp [z3])]
  have f1 : (w4.alloc o).frozen? ⟨w1.heap.size + 2, 1, none⟩ = false := by
    rw [← ho, World.frozen?_alloc_at _ _ _ _ (by simp [z3])]
  refine ⟨⟨b4, by omega, by omega, by omega, f0, f1, ⟨0, fun _ => rfl, k0⟩, k2, fun t ht => ?_, fun t ht => ?_⟩, k1⟩
  · have g := (A t (by omega)).1
    rw [Nat.zero_add] at g
    exact g
  · have g := (C t (by omega)).1
    rw [Nat.zero_add] at g
    exact g
end Go.Proofs.Qxb6602921a
