/-
  The walk of the law FnIsForMatchesSignedIdentifier (3). (The facts on the cells of the two boxes are laid by program.)
-/
import Derived.Test.Qxb6604496aBox
namespace Go.Proofs.Qxb6604496a
open Go.RowKit Go.Sort

set_option maxRecDepth 100000 in
set_option maxHeartbeats 8000000 in
theorem law_any (c : Int) (nm wr : ByteArray) (ng : Bool) (r : Int) (a : Option Addr) (n cap : Nat) (src ln : Int) (tx : ByteArray) (c2 : Int) (nm2 wr2 : ByteArray) (ng2 : Bool) (r2 : Int) (a2 : Option Addr) (n2 cap2 : Nat) (src2 ln2 : Int) (tx2 : ByteArray) (S S2 : Nat → ByteArray) (w : World) (h : IsS w a n S) (hc : a = none → n = 0 ∧ cap = 0) (h2 : IsS w a2 n2 S2) (hc2 : a2 = none → n2 = 0 ∧ cap2 = 0) :
    Calls Try.prog 3 #[.agg #[.int .i64 c, .string nm, .string wr, .bool ng, .int .u16 r, .slice a n cap, .int .i64 src, .int .i64 ln, .string tx], .agg #[.int .i64 c2, .string nm2, .string wr2, .bool ng2, .int .u16 r2, .slice a2 n2 cap2, .int .i64 src2, .int .i64 ln2, .string tx2]] w fun e w' => e = .returned (.bool true) ∧ Below w.heap.size w w' := by
  have mixed : Try.prog.follows .mixedOrders = true := by kernel_rfl
  have HI : Hid (IsS w a n S) := h
  have HI2 : Hid (IsS w a2 n2 S2) := h2
  have HC : Hid _ := hc
  have HC2 : Hid _ := hc2
  clear h h2 hc hc2
  go_enter Try.func3, Try.ntmps3
  go_wp2_with fail
  have hs0 : St w ((w.alloc (.cells #[.int .i64 c, .string nm, .string wr, .bool ng, .int .u16 r, .slice a n cap, .int .i64 src, .int .i64 ln, .string tx] 25)).alloc (.cells #[.int .i64 c2, .string nm2, .string wr2, .bool ng2, .int .u16 r2, .slice a2 n2 cap2, .int .i64 src2, .int .i64 ln2, .string tx2] 25)) w.heap.size #[.int .i64 c, .string nm, .string wr, .bool ng, .int .u16 r, .slice a n cap, .int .i64 src, .int .i64 ln, .string tx] #[.int .i64 c2, .string nm2, .string wr2, .bool ng2, .int .u16 r2, .slice a2 n2 cap2, .int .i64 src2, .int .i64 ln2, .string tx2] :=
    ⟨by go_grown, Nat.le_refl _, by simp, (box_new w _ 25).below (by simp) ((Below.refl _ _).alloc (Nat.le_refl _) _), by have g := box_new (w.alloc (.cells #[.int .i64 c, .string nm, .string wr, .bool ng, .int .u16 r, .slice a n cap, .int .i64 src, .int .i64 ln, .string tx] 25)) #[.int .i64 c2, .string nm2, .string wr2, .bool ng2, .int .u16 r2, .slice a2 n2 cap2, .int .i64 src2, .int .i64 ln2, .string tx2] 25; simpa using g⟩
  generalize (w.alloc (.cells #[.int .i64 c, .string nm, .string wr, .bool ng, .int .u16 r, .slice a n cap, .int .i64 src, .int .i64 ln, .string tx] 25)).alloc (.cells #[.int .i64 c2, .string nm2, .string wr2, .bool ng2, .int .u16 r2, .slice a2 n2 cap2, .int .i64 src2, .int .i64 ln2, .string tx2] 25) = w0 at hs0 ⊢
  refine (bytes5_any c nm wr ng r a n cap src ln tx c2 nm2 wr2 ng2 r2 a2 n2 cap2 src2 ln2 tx2 S S2 w0 (HI.out.below hs0.bel) (HI2.out.below hs0.bel)).mono ?_
  rintro e w1 ⟨v, rfl, hv, hb1⟩
  have hs1 := hs0.below hb1
  clear hs0 hb1
  obtain ⟨H, hH⟩ : ∃ H, w.heap.size = H := ⟨_, rfl⟩
  rw [hH] at hs1 ⊢
  clear hH
  rcases hv with rfl | ⟨rfl, hn, hn2, hwr, hwr2⟩
  · go_wp2
    go_ret
    exact ⟨rfl, hs1.bel⟩
  have HS1 : Hid _ := hs1
  clear hs1
  have A0 : ∀ nn os, (grow (w1.drewN nn) os).cell? ⟨H, 0, none⟩ = some (.int .i64 c) := fun nn os => cell_grown (show H < _ from (by have := HS1.out.lt; omega)) (HS1.out.A 0 (by decide)).1 nn os
  have A1 : ∀ nn os, (grow (w1.drewN nn) os).cell? ⟨H, 1, none⟩ = some (.string nm) := fun nn os => cell_grown (show H < _ from (by have := HS1.out.lt; omega)) (HS1.out.A 1 (by decide)).1 nn os
  have A2 : ∀ nn os, (grow (w1.drewN nn) os).cell? ⟨H, 2, none⟩ = some (.string wr) := fun nn os => cell_grown (show H < _ from (by have := HS1.out.lt; omega)) (HS1.out.A 2 (by decide)).1 nn os
  have A3 : ∀ nn os, (grow (w1.drewN nn) os).cell? ⟨H, 3, none⟩ = some (.bool ng) := fun nn os => cell_grown (show H < _ from (by have := HS1.out.lt; omega)) (HS1.out.A 3 (by decide)).1 nn os
  have A4 : ∀ nn os, (grow (w1.drewN nn) os).cell? ⟨H, 4, none⟩ = some (.int .u16 r) := fun nn os => cell_grown (show H < _ from (by have := HS1.out.lt; omega)) (HS1.out.A 4 (by decide)).1 nn os
  have A5 : ∀ nn os, (grow (w1.drewN nn) os).cell? ⟨H, 5, none⟩ = some (.slice a n cap) := fun nn os => cell_grown (show H < _ from (by have := HS1.out.lt; omega)) (HS1.out.A 5 (by decide)).1 nn os
  have A6 : ∀ nn os, (grow (w1.drewN nn) os).cell? ⟨H, 6, none⟩ = some (.int .i64 src) := fun nn os => cell_grown (show H < _ from (by have := HS1.out.lt; omega)) (HS1.out.A 6 (by decide)).1 nn os
  have A7 : ∀ nn os, (grow (w1.drewN nn) os).cell? ⟨H, 7, none⟩ = some (.int .i64 ln) := fun nn os => cell_grown (show H < _ from (by have := HS1.out.lt; omega)) (HS1.out.A 7 (by decide)).1 nn os
  have A8 : ∀ nn os, (grow (w1.drewN nn) os).cell? ⟨H, 8, none⟩ = some (.string tx) := fun nn os => cell_grown (show H < _ from (by have := HS1.out.lt; omega)) (HS1.out.A 8 (by decide)).1 nn os
  have B0 : ∀ nn os, (grow (w1.drewN nn) os).cell? ⟨(H + 1), 0, none⟩ = some (.int .i64 c2) := fun nn os => cell_grown (show (H + 1) < _ from HS1.out.lt) (HS1.out.B 0 (by decide)).1 nn os
  have B1 : ∀ nn os, (grow (w1.drewN nn) os).cell? ⟨(H + 1), 1, none⟩ = some (.string nm2) := fun nn os => cell_grown (show (H + 1) < _ from HS1.out.lt) (HS1.out.B 1 (by decide)).1 nn os
  have B2 : ∀ nn os, (grow (w1.drewN nn) os).cell? ⟨(H + 1), 2, none⟩ = some (.string wr2) := fun nn os => cell_grown (show (H + 1) < _ from HS1.out.lt) (HS1.out.B 2 (by decide)).1 nn os
  have B3 : ∀ nn os, (grow (w1.drewN nn) os).cell? ⟨(H + 1), 3, none⟩ = some (.bool ng2) := fun nn os => cell_grown (show (H + 1) < _ from HS1.out.lt) (HS1.out.B 3 (by decide)).1 nn os
  have B4 : ∀ nn os, (grow (w1.drewN nn) os).cell? ⟨(H + 1), 4, none⟩ = some (.int .u16 r2) := fun nn os => cell_grown (show (H + 1) < _ from HS1.out.lt) (HS1.out.B 4 (by decide)).1 nn os
  have B5 : ∀ nn os, (grow (w1.drewN nn) os).cell? ⟨(H + 1), 5, none⟩ = some (.slice a2 n2 cap2) := fun nn os => cell_grown (show (H + 1) < _ from HS1.out.lt) (HS1.out.B 5 (by decide)).1 nn os
  have B6 : ∀ nn os, (grow (w1.drewN nn) os).cell? ⟨(H + 1), 6, none⟩ = some (.int .i64 src2) := fun nn os => cell_grown (show (H + 1) < _ from HS1.out.lt) (HS1.out.B 6 (by decide)).1 nn os
  have B7 : ∀ nn os, (grow (w1.drewN nn) os).cell? ⟨(H + 1), 7, none⟩ = some (.int .i64 ln2) := fun nn os => cell_grown (show (H + 1) < _ from HS1.out.lt) (HS1.out.B 7 (by decide)).1 nn os
  have B8 : ∀ nn os, (grow (w1.drewN nn) os).cell? ⟨(H + 1), 8, none⟩ = some (.string tx2) := fun nn os => cell_grown (show (H + 1) < _ from HS1.out.lt) (HS1.out.B 8 (by decide)).1 nn os
  obtain ⟨t1, ht1⟩ : ∃ t, enB 0 nm wr tx n S = t := ⟨_, rfl⟩
  obtain ⟨t2, ht2⟩ : ∃ t, enB t1 nm2 wr2 tx2 n2 S2 = t := ⟨_, rfl⟩
  have q1 : Hid (∀ nn os, Calls Try.prog 6 #[.int .i64 0, .agg #[.int .i64 c, .string nm, .string wr, .bool ng, .int .u16 r, .slice a n cap, .int .i64 src, .int .i64 ln, .string tx]] (grow (w1.drewN nn) os) fun e w' => e = .returned (.int .i64 t1) ∧ ∃ q os', w' = grow ((grow (w1.drewN nn) os).drewN q) os') := fun nn os =>
    (entryBytes_any 0 c nm wr ng r a n cap src ln tx S _ (by omega) (HI.out.below (bel_grown HS1.out.bel HS1.out.bel.size nn os))).mono fun e w' ⟨he, hw⟩ => ⟨by rw [he, ht1], 0, _, hw.trans (alloc_eq_grow _ _)⟩
  have q2 : Hid (∀ nn os, Calls Try.prog 6 #[.int .i64 t1, .agg #[.int .i64 c2, .string nm2, .string wr2, .bool ng2, .int .u16 r2, .slice a2 n2 cap2, .int .i64 src2, .int .i64 ln2, .string tx2]] (grow (w1.drewN nn) os) fun e w' => e = .returned (.int .i64 t2) ∧ ∃ q os', w' = grow ((grow (w1.drewN nn) os).drewN q) os') := fun nn os =>
    (entryBytes_any t1 c2 nm2 wr2 ng2 r2 a2 n2 cap2 src2 ln2 tx2 S2 _ (by rw [← ht1]; exact enB_le _ _ _ _ _ _) (HI2.out.below (bel_grown HS1.out.bel HS1.out.bel.size nn os))).mono fun e w' ⟨he, hw⟩ => ⟨by rw [he, ht2], 0, _, hw.trans (alloc_eq_grow _ _)⟩
  clear ht1 ht2
  go_wp2_with fail
  refine wp_region_quiet_grown (by assumption) (by kernel_rfl) ?_
  quiet_step (fail)
  quiet_step (exact Calls.grown_of (q1.out _ _))
  quiet_step (fail)
  quiet_step (exact Calls.grown_of (q2.out _ _))
  quiet_step (fail)
  refine wpQuiet_nil ?_
  intro _ hw'
  obtain ⟨⟨nq, osq⟩, hw''⟩ := hw'
  subst hw''
  have hs2 : St w (grow (w1.drewN nq) osq) H #[.int .i64 c, .string nm, .string wr, .bool ng, .int .u16 r, .slice a n cap, .int .i64 src, .int .i64 ln, .string tx] #[.int .i64 c2, .string nm2, .string wr2, .bool ng2, .int .u16 r2, .slice a2 n2 cap2, .int .i64 src2, .int .i64 ln2, .string tx2] := HS1.out.below (bel_grown (Below.refl _ _) (Nat.le_refl _) nq osq)
  generalize grow (w1.drewN nq) osq = w2 at hs2 ⊢
  have HS2 : Hid _ := hs2
  clear hs2 q1 q2 HS1 A0 A1 A2 A3 A4 A5 A6 A7 A8 B0 B1 B2 B3 B4 B5 B6 B7 B8
  by_cases hbig : 1048576 < t2
  · have hd : decide ((1048576 : Int) < (t2 : Int)) = true := decide_eq_true (by omega)
    go_wp2
    go_ret
    exact ⟨rfl, HS2.out.bel⟩
  have hd : decide ((1048576 : Int) < (t2 : Int)) = false := decide_eq_false (by omega)
  have A0 : w2.cell? ⟨H, 0, none⟩ = some (.int .i64 c) := (HS2.out.A 0 (by decide)).1
  have Af0 : w2.frozen? ⟨H, 0, none⟩ = false := (HS2.out.A 0 (by decide)).2
  have A1 : w2.cell? ⟨H, 1, none⟩ = some (.string nm) := (HS2.out.A 1 (by decide)).1
  have Af1 : w2.frozen? ⟨H, 1, none⟩ = false := (HS2.out.A 1 (by decide)).2
  have A2 : w2.cell? ⟨H, 2, none⟩ = some (.string wr) := (HS2.out.A 2 (by decide)).1
  have Af2 : w2.frozen? ⟨H, 2, none⟩ = false := (HS2.out.A 2 (by decide)).2
  have A3 : w2.cell? ⟨H, 3, none⟩ = some (.bool ng) := (HS2.out.A 3 (by decide)).1
  have Af3 : w2.frozen? ⟨H, 3, none⟩ = false := (HS2.out.A 3 (by decide)).2
  have A4 : w2.cell? ⟨H, 4, none⟩ = some (.int .u16 r) := (HS2.out.A 4 (by decide)).1
  have Af4 : w2.frozen? ⟨H, 4, none⟩ = false := (HS2.out.A 4 (by decide)).2
  have A5 : w2.cell? ⟨H, 5, none⟩ = some (.slice a n cap) := (HS2.out.A 5 (by decide)).1
  have Af5 : w2.frozen? ⟨H, 5, none⟩ = false := (HS2.out.A 5 (by decide)).2
  have A6 : w2.cell? ⟨H, 6, none⟩ = some (.int .i64 src) := (HS2.out.A 6 (by decide)).1
  have Af6 : w2.frozen? ⟨H, 6, none⟩ = false := (HS2.out.A 6 (by decide)).2
  have A7 : w2.cell? ⟨H, 7, none⟩ = some (.int .i64 ln) := (HS2.out.A 7 (by decide)).1
  have Af7 : w2.frozen? ⟨H, 7, none⟩ = false := (HS2.out.A 7 (by decide)).2
  have A8 : w2.cell? ⟨H, 8, none⟩ = some (.string tx) := (HS2.out.A 8 (by decide)).1
  have Af8 : w2.frozen? ⟨H, 8, none⟩ = false := (HS2.out.A 8 (by decide)).2
  have B0 : w2.cell? ⟨(H + 1), 0, none⟩ = some (.int .i64 c2) := (HS2.out.B 0 (by decide)).1
  have Bf0 : w2.frozen? ⟨(H + 1), 0, none⟩ = false := (HS2.out.B 0 (by decide)).2
  have B1 : w2.cell? ⟨(H + 1), 1, none⟩ = some (.string nm2) := (HS2.out.B 1 (by decide)).1
  have Bf1 : w2.frozen? ⟨(H + 1), 1, none⟩ = false := (HS2.out.B 1 (by decide)).2
  have B2 : w2.cell? ⟨(H + 1), 2, none⟩ = some (.string wr2) := (HS2.out.B 2 (by decide)).1
  have Bf2 : w2.frozen? ⟨(H + 1), 2, none⟩ = false := (HS2.out.B 2 (by decide)).2
  have B3 : w2.cell? ⟨(H + 1), 3, none⟩ = some (.bool ng2) := (HS2.out.B 3 (by decide)).1
  have Bf3 : w2.frozen? ⟨(H + 1), 3, none⟩ = false := (HS2.out.B 3 (by decide)).2
  have B4 : w2.cell? ⟨(H + 1), 4, none⟩ = some (.int .u16 r2) := (HS2.out.B 4 (by decide)).1
  have Bf4 : w2.frozen? ⟨(H + 1), 4, none⟩ = false := (HS2.out.B 4 (by decide)).2
  have B5 : w2.cell? ⟨(H + 1), 5, none⟩ = some (.slice a2 n2 cap2) := (HS2.out.B 5 (by decide)).1
  have Bf5 : w2.frozen? ⟨(H + 1), 5, none⟩ = false := (HS2.out.B 5 (by decide)).2
  have B6 : w2.cell? ⟨(H + 1), 6, none⟩ = some (.int .i64 src2) := (HS2.out.B 6 (by decide)).1
  have Bf6 : w2.frozen? ⟨(H + 1), 6, none⟩ = false := (HS2.out.B 6 (by decide)).2
  have B7 : w2.cell? ⟨(H + 1), 7, none⟩ = some (.int .i64 ln2) := (HS2.out.B 7 (by decide)).1
  have Bf7 : w2.frozen? ⟨(H + 1), 7, none⟩ = false := (HS2.out.B 7 (by decide)).2
  have B8 : w2.cell? ⟨(H + 1), 8, none⟩ = some (.string tx2) := (HS2.out.B 8 (by decide)).1
  have Bf8 : w2.frozen? ⟨(H + 1), 8, none⟩ = false := (HS2.out.B 8 (by decide)).2
  have sa := startsWithMinus_any wr
  have sb := startsWithMinus_any wr2
  cases hma : sm wr with
  | true =>
    rw [hma] at sa
    have SA : Hid _ := sa
    clear sa sb hma
    go_wp2_with (go_at_call 7; refine (SA.out _).mono ?_; rintro e w' ⟨rfl, rfl⟩)
    go_ret
    exact ⟨rfl, HS2.out.bel⟩
  | false =>
  rw [hma] at sa
  have SA : Hid _ := sa
  have HMA : Hid _ := hma
  clear sa hma
  cases hmb : sm wr2 with
  | true =>
    rw [hmb] at sb
    have SB : Hid _ := sb
    clear sb hmb
    go_wp2_with fail
    refine (SA.out _).mono ?_
    rintro e w' ⟨rfl, rfl⟩
    go_wp2_with fail
    refine (SB.out _).mono ?_
    rintro e w' ⟨rfl, rfl⟩
    go_wp2
    go_ret
    exact ⟨rfl, HS2.out.bel⟩
  | false =>
  rw [hmb] at sb
  have SB : Hid _ := sb
  have HMB : Hid _ := hmb
  clear sb hmb
  go_wp2_with fail
  refine (SA.out _).mono ?_
  rintro e w' ⟨rfl, rfl⟩
  go_wp2_with fail
  refine (SB.out _).mono ?_
  rintro e w' ⟨rfl, rfl⟩
  clear SA SB hd hbig
  go_wp2_with fail
  refine (cloneEntry_any c nm wr ng r a n cap src ln tx S w2 hn HC.out (HI.out.below HS2.out.bel)).mono ?_
  rintro e w3 ⟨a', n', c', rfl, hb3⟩
  have HS3 : Hid (St w w3 H #[.int .i64 c, .string nm, .string wr, .bool ng, .int .u16 r, .slice a n cap, .int .i64 src, .int .i64 ln, .string tx] #[.int .i64 c2, .string nm2, .string wr2, .bool ng2, .int .u16 r2, .slice a2 n2 cap2, .int .i64 src2, .int .i64 ln2, .string tx2]) := HS2.out.below hb3
  clear hb3 HS2 A0 A1 A2 A3 A4 A5 A6 A7 A8 Af0 Af1 Af2 Af3 Af4 Af5 Af6 Af7 Af8 B0 B1 B2 B3 B4 B5 B6 B7 B8 Bf0 Bf1 Bf2 Bf3 Bf4 Bf5 Bf6 Bf7 Bf8
  have A0 : w3.cell? ⟨H, 0, none⟩ = some (.int .i64 c) := (HS3.out.A 0 (by decide)).1
  have Af0 : w3.frozen? ⟨H, 0, none⟩ = false := (HS3.out.A 0 (by decide)).2
  have A1 : w3.cell? ⟨H, 1, none⟩ = some (.string nm) := (HS3.out.A 1 (by decide)).1
  have Af1 : w3.frozen? ⟨H, 1, none⟩ = false := (HS3.out.A 1 (by decide)).2
  have A2 : w3.cell? ⟨H, 2, none⟩ = some (.string wr) := (HS3.out.A 2 (by decide)).1
  have Af2 : w3.frozen? ⟨H, 2, none⟩ = false := (HS3.out.A 2 (by decide)).2
  have A3 : w3.cell? ⟨H, 3, none⟩ = some (.bool ng) := (HS3.out.A 3 (by decide)).1
  have Af3 : w3.frozen? ⟨H, 3, none⟩ = false := (HS3.out.A 3 (by decide)).2
  have A4 : w3.cell? ⟨H, 4, none⟩ = some (.int .u16 r) := (HS3.out.A 4 (by decide)).1
  have Af4 : w3.frozen? ⟨H, 4, none⟩ = false := (HS3.out.A 4 (by decide)).2
  have A5 : w3.cell? ⟨H, 5, none⟩ = some (.slice a n cap) := (HS3.out.A 5 (by decide)).1
  have Af5 : w3.frozen? ⟨H, 5, none⟩ = false := (HS3.out.A 5 (by decide)).2
  have A6 : w3.cell? ⟨H, 6, none⟩ = some (.int .i64 src) := (HS3.out.A 6 (by decide)).1
  have Af6 : w3.frozen? ⟨H, 6, none⟩ = false := (HS3.out.A 6 (by decide)).2
  have A7 : w3.cell? ⟨H, 7, none⟩ = some (.int .i64 ln) := (HS3.out.A 7 (by decide)).1
  have Af7 : w3.frozen? ⟨H, 7, none⟩ = false := (HS3.out.A 7 (by decide)).2
  have A8 : w3.cell? ⟨H, 8, none⟩ = some (.string tx) := (HS3.out.A 8 (by decide)).1
  have Af8 : w3.frozen? ⟨H, 8, none⟩ = false := (HS3.out.A 8 (by decide)).2
  have B0 : w3.cell? ⟨(H + 1), 0, none⟩ = some (.int .i64 c2) := (HS3.out.B 0 (by decide)).1
  have B1 : w3.cell? ⟨(H + 1), 1, none⟩ = some (.string nm2) := (HS3.out.B 1 (by decide)).1
  have B2 : w3.cell? ⟨(H + 1), 2, none⟩ = some (.string wr2) := (HS3.out.B 2 (by decide)).1
  have B3 : w3.cell? ⟨(H + 1), 3, none⟩ = some (.bool ng2) := (HS3.out.B 3 (by decide)).1
  have B4 : w3.cell? ⟨(H + 1), 4, none⟩ = some (.int .u16 r2) := (HS3.out.B 4 (by decide)).1
  have B5 : w3.cell? ⟨(H + 1), 5, none⟩ = some (.slice a2 n2 cap2) := (HS3.out.B 5 (by decide)).1
  have B6 : w3.cell? ⟨(H + 1), 6, none⟩ = some (.int .i64 src2) := (HS3.out.B 6 (by decide)).1
  have B7 : w3.cell? ⟨(H + 1), 7, none⟩ = some (.int .i64 ln2) := (HS3.out.B 7 (by decide)).1
  have B8 : w3.cell? ⟨(H + 1), 8, none⟩ = some (.string tx2) := (HS3.out.B 8 (by decide)).1
  go_wp2_with fail
  have HS4 : Hid (St w (((((((((w3.setCell ⟨H, 0, none⟩ (.int .i64 c)).setCell ⟨H, 1, none⟩ (.string nm)).setCell ⟨H, 2, none⟩ (.string wr)).setCell ⟨H, 3, none⟩ (.bool ng)).setCell ⟨H, 4, none⟩ (.int .u16 r)).setCell ⟨H, 5, none⟩ (.slice a' n' c')).setCell ⟨H, 6, none⟩ (.int .i64 src)).setCell ⟨H, 7, none⟩ (.int .i64 ln)).setCell ⟨H, 8, none⟩ (.string tx)) H #[.int .i64 c, .string nm, .string wr, .bool ng, .int .u16 r, .slice a' n' c', .int .i64 src, .int .i64 ln, .string tx] #[.int .i64 c2, .string nm2, .string wr2, .bool ng2, .int .u16 r2, .slice a2 n2 cap2, .int .i64 src2, .int .i64 ln2, .string tx2]) := HS3.out.putA _ _ _ _ _ _ _ _ _
  refine (cloneEntry_any c2 nm2 wr2 ng2 r2 a2 n2 cap2 src2 ln2 tx2 S2 _ hn2 HC2.out (HI2.out.below HS4.out.bel)).mono ?_
  rintro e w5 ⟨b', m', d', rfl, hb5⟩
  have HS5 : Hid (St w w5 H #[.int .i64 c, .string nm, .string wr, .bool ng, .int .u16 r, .slice a' n' c', .int .i64 src, .int .i64 ln, .string tx] #[.int .i64 c2, .string nm2, .string wr2, .bool ng2, .int .u16 r2, .slice a2 n2 cap2, .int .i64 src2, .int .i64 ln2, .string tx2]) := HS4.out.below hb5
  clear hb5 HS3 HS4 A0 A1 A2 A3 A4 A5 A6 A7 A8 Af0 Af1 Af2 Af3 Af4 Af5 Af6 Af7 Af8 B0 B1 B2 B3 B4 B5 B6 B7 B8 HI HI2 HC HC2 hn hn2
  have A0 : w5.cell? ⟨H, 0, none⟩ = some (.int .i64 c) := (HS5.out.A 0 (by decide)).1
  have A1 : w5.cell? ⟨H, 1, none⟩ = some (.string nm) := (HS5.out.A 1 (by decide)).1
  have A2 : w5.cell? ⟨H, 2, none⟩ = some (.string wr) := (HS5.out.A 2 (by decide)).1
  have A3 : w5.cell? ⟨H, 3, none⟩ = some (.bool ng) := (HS5.out.A 3 (by decide)).1
  have A4 : w5.cell? ⟨H, 4, none⟩ = some (.int .u16 r) := (HS5.out.A 4 (by decide)).1
  have A5 : w5.cell? ⟨H, 5, none⟩ = some (.slice a' n' c') := (HS5.out.A 5 (by decide)).1
  have A6 : w5.cell? ⟨H, 6, none⟩ = some (.int .i64 src) := (HS5.out.A 6 (by decide)).1
  have A7 : w5.cell? ⟨H, 7, none⟩ = some (.int .i64 ln) := (HS5.out.A 7 (by decide)).1
  have A8 : w5.cell? ⟨H, 8, none⟩ = some (.string tx) := (HS5.out.A 8 (by decide)).1
  have B0 : w5.cell? ⟨(H + 1), 0, none⟩ = some (.int .i64 c2) := (HS5.out.B 0 (by decide)).1
  have Bf0 : w5.frozen? ⟨(H + 1), 0, none⟩ = false := (HS5.out.B 0 (by decide)).2
  have B1 : w5.cell? ⟨(H + 1), 1, none⟩ = some (.string nm2) := (HS5.out.B 1 (by decide)).1
  have Bf1 : w5.frozen? ⟨(H + 1), 1, none⟩ = false := (HS5.out.B 1 (by decide)).2
  have B2 : w5.cell? ⟨(H + 1), 2, none⟩ = some (.string wr2) := (HS5.out.B 2 (by decide)).1
  have Bf2 : w5.frozen? ⟨(H + 1), 2, none⟩ = false := (HS5.out.B 2 (by decide)).2
  have B3 : w5.cell? ⟨(H + 1), 3, none⟩ = some (.bool ng2) := (HS5.out.B 3 (by decide)).1
  have Bf3 : w5.frozen? ⟨(H + 1), 3, none⟩ = false := (HS5.out.B 3 (by decide)).2
  have B4 : w5.cell? ⟨(H + 1), 4, none⟩ = some (.int .u16 r2) := (HS5.out.B 4 (by decide)).1
  have Bf4 : w5.frozen? ⟨(H + 1), 4, none⟩ = false := (HS5.out.B 4 (by decide)).2
  have B5 : w5.cell? ⟨(H + 1), 5, none⟩ = some (.slice a2 n2 cap2) := (HS5.out.B 5 (by decide)).1
  have Bf5 : w5.frozen? ⟨(H + 1), 5, none⟩ = false := (HS5.out.B 5 (by decide)).2
  have B6 : w5.cell? ⟨(H + 1), 6, none⟩ = some (.int .i64 src2) := (HS5.out.B 6 (by decide)).1
  have Bf6 : w5.frozen? ⟨(H + 1), 6, none⟩ = false := (HS5.out.B 6 (by decide)).2
  have B7 : w5.cell? ⟨(H + 1), 7, none⟩ = some (.int .i64 ln2) := (HS5.out.B 7 (by decide)).1
  have Bf7 : w5.frozen? ⟨(H + 1), 7, none⟩ = false := (HS5.out.B 7 (by decide)).2
  have B8 : w5.cell? ⟨(H + 1), 8, none⟩ = some (.string tx2) := (HS5.out.B 8 (by decide)).1
  have Bf8 : w5.frozen? ⟨(H + 1), 8, none⟩ = false := (HS5.out.B 8 (by decide)).2
  go_wp2_with fail
  have HS6 : Hid (St w (((((((((w5.setCell ⟨H + 1, 0, none⟩ (.int .i64 c2)).setCell ⟨H + 1, 1, none⟩ (.string nm2)).setCell ⟨H + 1, 2, none⟩ (.string wr2)).setCell ⟨H + 1, 3, none⟩ (.bool ng2)).setCell ⟨H + 1, 4, none⟩ (.int .u16 r2)).setCell ⟨H + 1, 5, none⟩ (.slice b' m' d')).setCell ⟨H + 1, 6, none⟩ (.int .i64 src2)).setCell ⟨H + 1, 7, none⟩ (.int .i64 ln2)).setCell ⟨H + 1, 8, none⟩ (.string tx2)) H #[.int .i64 c, .string nm, .string wr, .bool ng, .int .u16 r, .slice a' n' c', .int .i64 src, .int .i64 ln, .string tx] #[.int .i64 c2, .string nm2, .string wr2, .bool ng2, .int .u16 r2, .slice b' m' d', .int .i64 src2, .int .i64 ln2, .string tx2]) := HS5.out.putB _ _ _ _ _ _ _ _ _
  generalize (((((((((w5.setCell ⟨H + 1, 0, none⟩ (.int .i64 c2)).setCell ⟨H + 1, 1, none⟩ (.string nm2)).setCell ⟨H + 1, 2, none⟩ (.string wr2)).setCell ⟨H + 1, 3, none⟩ (.bool ng2)).setCell ⟨H + 1, 4, none⟩ (.int .u16 r2)).setCell ⟨H + 1, 5, none⟩ (.slice b' m' d')).setCell ⟨H + 1, 6, none⟩ (.int .i64 src2)).setCell ⟨H + 1, 7, none⟩ (.int .i64 ln2)).setCell ⟨H + 1, 8, none⟩ (.string tx2)) = w6 at HS6 ⊢
  clear HS5 A0 A1 A2 A3 A4 A5 A6 A7 A8 B0 B1 B2 B3 B4 B5 B6 B7 B8 Bf0 Bf1 Bf2 Bf3 Bf4 Bf5 Bf6 Bf7 Bf8
  have hlt1 : H + 1 < w6.heap.size := HS6.out.lt
  have hlt0 : H < w6.heap.size := by omega
  have A0 : w6.cell? ⟨H, 0, none⟩ = some (.int .i64 c) := (HS6.out.A 0 (by decide)).1
  have A1 : w6.cell? ⟨H, 1, none⟩ = some (.string nm) := (HS6.out.A 1 (by decide)).1
  have A2 : w6.cell? ⟨H, 2, none⟩ = some (.string wr) := (HS6.out.A 2 (by decide)).1
  have A3 : w6.cell? ⟨H, 3, none⟩ = some (.bool ng) := (HS6.out.A 3 (by decide)).1
  have A4 : w6.cell? ⟨H, 4, none⟩ = some (.int .u16 r) := (HS6.out.A 4 (by decide)).1
  have A5 : w6.cell? ⟨H, 5, none⟩ = some (.slice a' n' c') := (HS6.out.A 5 (by decide)).1
  have A6 : w6.cell? ⟨H, 6, none⟩ = some (.int .i64 src) := (HS6.out.A 6 (by decide)).1
  have A7 : w6.cell? ⟨H, 7, none⟩ = some (.int .i64 ln) := (HS6.out.A 7 (by decide)).1
  have A8 : w6.cell? ⟨H, 8, none⟩ = some (.string tx) := (HS6.out.A 8 (by decide)).1
  have B0 : w6.cell? ⟨(H + 1), 0, none⟩ = some (.int .i64 c2) := (HS6.out.B 0 (by decide)).1
  have B1 : w6.cell? ⟨(H + 1), 1, none⟩ = some (.string nm2) := (HS6.out.B 1 (by decide)).1
  have B2 : w6.cell? ⟨(H + 1), 2, none⟩ = some (.string wr2) := (HS6.out.B 2 (by decide)).1
  have B3 : w6.cell? ⟨(H + 1), 3, none⟩ = some (.bool ng2) := (HS6.out.B 3 (by decide)).1
  have B4 : w6.cell? ⟨(H + 1), 4, none⟩ = some (.int .u16 r2) := (HS6.out.B 4 (by decide)).1
  have B5 : w6.cell? ⟨(H + 1), 5, none⟩ = some (.slice b' m' d') := (HS6.out.B 5 (by decide)).1
  have B6 : w6.cell? ⟨(H + 1), 6, none⟩ = some (.int .i64 src2) := (HS6.out.B 6 (by decide)).1
  have B7 : w6.cell? ⟨(H + 1), 7, none⟩ = some (.int .i64 ln2) := (HS6.out.B 7 (by decide)).1
  have B8 : w6.cell? ⟨(H + 1), 8, none⟩ = some (.string tx2) := (HS6.out.B 8 (by decide)).1
  refine (newEntry_any c nm wr ng r a' n' c' src ln tx w6).mono ?_
  rintro e w' ⟨rfl, rfl⟩
  go_wp2_with fail
  refine (newEntry_any c2 nm2 wr2 ng2 r2 b' m' d' src2 ln2 tx2 _).mono ?_
  rintro e w' ⟨rfl, rfl⟩
  go_wp2_with fail
  obtain ⟨hs8, he8⟩ := made4 HS6.out #[.int .i64 c, .string nm, .string wr, .bool ng, .int .u16 r, .slice a' n' c', .int .i64 src, .int .i64 ln, .string tx] #[.int .i64 c2, .string nm2, .string wr2, .bool ng2, .int .u16 r2, .slice b' m' d', .int .i64 src2, .int .i64 ln2, .string tx2] 38
  generalize ((((w6.alloc (.cells #[.int .i64 c, .string nm, .string wr, .bool ng, .int .u16 r, .slice a' n' c', .int .i64 src, .int .i64 ln, .string tx] 38)).alloc (.cells #[.int .i64 c, .string nm, .string wr, .bool ng, .int .u16 r, .slice a' n' c', .int .i64 src, .int .i64 ln, .string tx] 38)).alloc (.cells #[.int .i64 c2, .string nm2, .string wr2, .bool ng2, .int .u16 r2, .slice b' m' d', .int .i64 src2, .int .i64 ln2, .string tx2] 38)).alloc (.cells #[.int .i64 c2, .string nm2, .string wr2, .bool ng2, .int .u16 r2, .slice b' m' d', .int .i64 src2, .int .i64 ln2, .string tx2] 38)) = w8 at hs8 he8 ⊢
  obtain ⟨E1, hE1⟩ : ∃ E, w6.heap.size + 1 = E := ⟨_, rfl⟩
  obtain ⟨E2, hE2⟩ : ∃ E, w6.heap.size + 1 + 1 + 1 = E := ⟨_, rfl⟩
  rw [hE2] at he8 ⊢
  rw [hE1] at he8 ⊢
  have HE8 : Hid _ := he8
  have hA2 := (hs8.A 2 (by decide)).1
  have g2 : w8.cell? ⟨H, 2, none⟩ = some (.string wr) := hA2
  have g3 : w8.cell? ⟨H, 3, none⟩ = some (.bool ng) := (hs8.A 3 (by decide)).1
  have k2 : w8.cell? ⟨H + 1, 2, none⟩ = some (.string wr2) := (hs8.B 2 (by decide)).1
  have k3 : w8.cell? ⟨H + 1, 3, none⟩ = some (.bool ng2) := (hs8.B 3 (by decide)).1
  clear hE1 hE2 hs8 he8 hA2 HS6 hlt0 hlt1 A0 A1 A2 A3 A4 A5 A6 A7 A8 B0 B1 B2 B3 B4 B5 B6 B7 B8
  have C1 : Hid _ := signedOf_any wr ng
  have C2 : Hid _ := signedOf_any wr2 ng2
  have hcore := core wr wr2 ng ng2 HMA.out HMB.out
  obtain ⟨R, hR⟩ : ∃ R, (seq wr wr2 && (ng == ng2)) = R := ⟨_, rfl⟩
  rw [hR] at hcore
  have HR : Hid _ := hR
  have hself : Hid ((seq wr wr && (ng == ng)) = true) := by
    show _ = _
    rw [(seq_iff wr wr).2 rfl]
    cases ng <;> rfl
  obtain ⟨s1, hs1⟩ : ∃ s, sg wr ng = s := ⟨_, rfl⟩
  obtain ⟨s2, hs2⟩ : ∃ s, sg wr2 ng2 = s := ⟨_, rfl⟩
  rw [hs1] at C1 hcore
  rw [hs2] at C2 hcore
  have hse : (s1.toList == s2.toList) = R := hcore
  clear hcore hs1 hs2 hR HMA HMB
  refine wp_region_quiet_lit (by kernel_rfl) (by kernel_rfl) ?_
  quiet_step (fail)
  quiet_step (fail)
  quiet_step (fail)
  quiet_step (fail)
  quiet_step (exact Calls.quiet_of_same (calls_flip (C1.out _ hwr)))
  quiet_step (fail)
  quiet_step (fail)
  quiet_step (fail)
  quiet_step (fail)
  quiet_step (exact Calls.quiet_of_same (calls_flip (C2.out _ hwr2)))
  quiet_step (fail)
  quiet_step (fail)
  refine wpQuiet_nil ?_
  intro _ hw'
  obtain ⟨nq, hw''⟩ := hw'
  subst hw''
  have HE9 : Hid (En w (w8.drewN nq) E1 E2 #[.int .i64 c, .string nm, .string wr, .bool ng, .int .u16 r, .slice a' n' c', .int .i64 src, .int .i64 ln, .string tx] #[.int .i64 c2, .string nm2, .string wr2, .bool ng2, .int .u16 r2, .slice b' m' d', .int .i64 src2, .int .i64 ln2, .string tx2]) := HE8.out.drewN nq
  generalize w8.drewN nq = w9 at HE9 ⊢
  clear HE8 g2 g3 k2 k3 hse C1 C2
  have A0 : w9.cell? ⟨E1, 0, none⟩ = some (.int .i64 c) := (HE9.out.A 0 (by decide)).1
  have A1 : w9.cell? ⟨E1, 1, none⟩ = some (.string nm) := (HE9.out.A 1 (by decide)).1
  have A2 : w9.cell? ⟨E1, 2, none⟩ = some (.string wr) := (HE9.out.A 2 (by decide)).1
  have A3 : w9.cell? ⟨E1, 3, none⟩ = some (.bool ng) := (HE9.out.A 3 (by decide)).1
  have A4 : w9.cell? ⟨E1, 4, none⟩ = some (.int .u16 r) := (HE9.out.A 4 (by decide)).1
  have A5 : w9.cell? ⟨E1, 5, none⟩ = some (.slice a' n' c') := (HE9.out.A 5 (by decide)).1
  have A6 : w9.cell? ⟨E1, 6, none⟩ = some (.int .i64 src) := (HE9.out.A 6 (by decide)).1
  have A7 : w9.cell? ⟨E1, 7, none⟩ = some (.int .i64 ln) := (HE9.out.A 7 (by decide)).1
  have A8 : w9.cell? ⟨E1, 8, none⟩ = some (.string tx) := (HE9.out.A 8 (by decide)).1
  have B0 : w9.cell? ⟨E2, 0, none⟩ = some (.int .i64 c2) := (HE9.out.B 0 (by decide)).1
  have B1 : w9.cell? ⟨E2, 1, none⟩ = some (.string nm2) := (HE9.out.B 1 (by decide)).1
  have B2 : w9.cell? ⟨E2, 2, none⟩ = some (.string wr2) := (HE9.out.B 2 (by decide)).1
  have B3 : w9.cell? ⟨E2, 3, none⟩ = some (.bool ng2) := (HE9.out.B 3 (by decide)).1
  have B4 : w9.cell? ⟨E2, 4, none⟩ = some (.int .u16 r2) := (HE9.out.B 4 (by decide)).1
  have B5 : w9.cell? ⟨E2, 5, none⟩ = some (.slice b' m' d') := (HE9.out.B 5 (by decide)).1
  have B6 : w9.cell? ⟨E2, 6, none⟩ = some (.int .i64 src2) := (HE9.out.B 6 (by decide)).1
  have B7 : w9.cell? ⟨E2, 7, none⟩ = some (.int .i64 ln2) := (HE9.out.B 7 (by decide)).1
  have B8 : w9.cell? ⟨E2, 8, none⟩ = some (.string tx2) := (HE9.out.B 8 (by decide)).1
  go_wp2_with fail
  have ca := isFor_any c nm wr ng r a' n' c' src ln tx c2 nm2 wr2 ng2 r2 b' m' d' src2 ln2 tx2 w9
  rw [HR.out] at ca
  refine ca.mono ?_
  clear ca
  rintro e w10 ⟨rfl, hb10⟩
  have HE10 : Hid (En w w10 E1 E2 #[.int .i64 c, .string nm, .string wr, .bool ng, .int .u16 r, .slice a' n' c', .int .i64 src, .int .i64 ln, .string tx] #[.int .i64 c2, .string nm2, .string wr2, .bool ng2, .int .u16 r2, .slice b' m' d', .int .i64 src2, .int .i64 ln2, .string tx2]) := HE9.out.below hb10
  clear hb10 HE9 A0 A1 A2 A3 A4 A5 A6 A7 A8 B0 B1 B2 B3 B4 B5 B6 B7 B8
  have A0 : w10.cell? ⟨E1, 0, none⟩ = some (.int .i64 c) := (HE10.out.A 0 (by decide)).1
  have A1 : w10.cell? ⟨E1, 1, none⟩ = some (.string nm) := (HE10.out.A 1 (by decide)).1
  have A2 : w10.cell? ⟨E1, 2, none⟩ = some (.string wr) := (HE10.out.A 2 (by decide)).1
  have A3 : w10.cell? ⟨E1, 3, none⟩ = some (.bool ng) := (HE10.out.A 3 (by decide)).1
  have A4 : w10.cell? ⟨E1, 4, none⟩ = some (.int .u16 r) := (HE10.out.A 4 (by decide)).1
  have A5 : w10.cell? ⟨E1, 5, none⟩ = some (.slice a' n' c') := (HE10.out.A 5 (by decide)).1
  have A6 : w10.cell? ⟨E1, 6, none⟩ = some (.int .i64 src) := (HE10.out.A 6 (by decide)).1
  have A7 : w10.cell? ⟨E1, 7, none⟩ = some (.int .i64 ln) := (HE10.out.A 7 (by decide)).1
  have A8 : w10.cell? ⟨E1, 8, none⟩ = some (.string tx) := (HE10.out.A 8 (by decide)).1
  have B0 : w10.cell? ⟨E2, 0, none⟩ = some (.int .i64 c2) := (HE10.out.B 0 (by decide)).1
  have B1 : w10.cell? ⟨E2, 1, none⟩ = some (.string nm2) := (HE10.out.B 1 (by decide)).1
  have B2 : w10.cell? ⟨E2, 2, none⟩ = some (.string wr2) := (HE10.out.B 2 (by decide)).1
  have B3 : w10.cell? ⟨E2, 3, none⟩ = some (.bool ng2) := (HE10.out.B 3 (by decide)).1
  have B4 : w10.cell? ⟨E2, 4, none⟩ = some (.int .u16 r2) := (HE10.out.B 4 (by decide)).1
  have B5 : w10.cell? ⟨E2, 5, none⟩ = some (.slice b' m' d') := (HE10.out.B 5 (by decide)).1
  have B6 : w10.cell? ⟨E2, 6, none⟩ = some (.int .i64 src2) := (HE10.out.B 6 (by decide)).1
  have B7 : w10.cell? ⟨E2, 7, none⟩ = some (.int .i64 ln2) := (HE10.out.B 7 (by decide)).1
  have B8 : w10.cell? ⟨E2, 8, none⟩ = some (.string tx2) := (HE10.out.B 8 (by decide)).1
  have HR2 : Hid ((seq wr2 wr && (ng2 == ng)) = R) := by
    show _ = _
    rw [← HR.out, Bool.eq_iff_iff]
    simp only [Bool.and_eq_true, seq_iff, beq_iff_eq]
    constructor <;> rintro ⟨x, y⟩ <;> exact ⟨x.symm, y.symm⟩
  cases R <;>
  · go_wp2_with fail
    have cb := isFor_any c2 nm2 wr2 ng2 r2 b' m' d' src2 ln2 tx2 c nm wr ng r a' n' c' src ln tx w10
    rw [HR2.out] at cb
    refine cb.mono ?_
    clear cb
    rintro e w11 ⟨rfl, hb11⟩
    have HE11 : Hid (En w w11 E1 E2 #[.int .i64 c, .string nm, .string wr, .bool ng, .int .u16 r, .slice a' n' c', .int .i64 src, .int .i64 ln, .string tx] #[.int .i64 c2, .string nm2, .string wr2, .bool ng2, .int .u16 r2, .slice b' m' d', .int .i64 src2, .int .i64 ln2, .string tx2]) := HE10.out.below hb11
    clear hb11 HE10 A0 A1 A2 A3 A4 A5 A6 A7 A8 B0 B1 B2 B3 B4 B5 B6 B7 B8
    have A0 : w11.cell? ⟨E1, 0, none⟩ = some (.int .i64 c) := (HE11.out.A 0 (by decide)).1
    have A1 : w11.cell? ⟨E1, 1, none⟩ = some (.string nm) := (HE11.out.A 1 (by decide)).1
    have A2 : w11.cell? ⟨E1, 2, none⟩ = some (.string wr) := (HE11.out.A 2 (by decide)).1
    have A3 : w11.cell? ⟨E1, 3, none⟩ = some (.bool ng) := (HE11.out.A 3 (by decide)).1
    have A4 : w11.cell? ⟨E1, 4, none⟩ = some (.int .u16 r) := (HE11.out.A 4 (by decide)).1
    have A5 : w11.cell? ⟨E1, 5, none⟩ = some (.slice a' n' c') := (HE11.out.A 5 (by decide)).1
    have A6 : w11.cell? ⟨E1, 6, none⟩ = some (.int .i64 src) := (HE11.out.A 6 (by decide)).1
    have A7 : w11.cell? ⟨E1, 7, none⟩ = some (.int .i64 ln) := (HE11.out.A 7 (by decide)).1
    have A8 : w11.cell? ⟨E1, 8, none⟩ = some (.string tx) := (HE11.out.A 8 (by decide)).1
    go_wp2_with fail
    have cc := isFor_any c nm wr ng r a' n' c' src ln tx c nm wr ng r a' n' c' src ln tx w11
    rw [hself.out] at cc
    refine cc.mono ?_
    clear cc
    rintro e w12 ⟨rfl, hb12⟩
    have hb13 : Hid (Below w.heap.size w w12) := (HE11.out.below hb12).bel
    clear hb12 HE11 A0 A1 A2 A3 A4 A5 A6 A7 A8
    go_wp2
    go_ret
    exact ⟨rfl, hb13.out⟩
end Go.Proofs.Qxb6604496a
