/-
  The walk of the law FnMovedAlikeSidesOfTheMedian.
-/
import Derived.Test.Qxb6602921aShape
import Derived.Test.Qxb6602921aSel
import Derived.Test.Qxb6602921aSidesPlain
namespace Go.Proofs.Qxb6602921a
open Go.RowKit Go.Sort
attribute [local go_sem] run_store_float

theorem bytes18_yes (a : Option Addr) (n cap : Nat) (w : World) (hn : n ≤ 1048576) : Calls Try.prog 18 #[.slice a n cap] w fun e w' => e = .returned (.bool true) ∧ w = w' := by
  go_enter Try.func18, Try.ntmps18
  go_wp2
  go_ret
  exact ⟨rfl, rfl⟩
theorem bytes18_no (a : Option Addr) (n cap : Nat) (w : World) (hn : 1048576 < n) : Calls Try.prog 18 #[.slice a n cap] w fun e w' => e = .returned (.bool false) ∧ w = w' := by
  go_enter Try.func18, Try.ntmps18
  go_wp2
  go_ret
  exact ⟨rfl, rfl⟩

theorem frow_some {w : World} {a : Option Addr} {n cap : Nat} {d : Array Nat} (h : IsFRow w a n cap d) (hn : 1 ≤ n) :
    ∃ b off, a = some ⟨b, off, none⟩ ∧ b < w.heap.size ∧ ∀ t, t < n → w.cell? ⟨b, off + t, none⟩ = some (.float .f64 d[t]!) := by
  obtain ⟨_, ⟨_, h0, _⟩ | ⟨x, rfl, hc⟩⟩ := h
  · omega
  · obtain ⟨b, off, spot⟩ := x
    have hspot : spot = none := by simpa [Addr.add] using World.cell?_spot (hc 0 (by omega))
    subst hspot
    have hc' : ∀ j, j < n → w.cell? ⟨b, off + j, none⟩ = some (.float .f64 d[j]!) := fun j hj => by rw [← WideShapes.add_plain]; exact hc j hj
    exact ⟨b, off, rfl, World.block_lt_of_cell? _ _ (hc' 0 (by omega)), hc'⟩

theorem zzmoved_alike (blk off m cap : Nat) (d : Array Nat) (w : World) (hn : m ≤ 1048576) (h1 : 1 ≤ m) (hb : blk < w.heap.size) (hc : ∀ t, t < m + 1 → w.cell? ⟨blk, off + t, none⟩ = some (.float .f64 d[t]!)) :
    Calls Try.prog 20 #[.slice (some ⟨blk, off, none⟩) (m + 1) cap] w fun e w' => ∃ al, e = .returned (.slice (some ⟨w.heap.size, 0, none⟩) (m + 1) (m + 1)) ∧ Alike d m al ∧ (∀ t, t < m + 1 → w'.cell? ⟨w.heap.size, t, none⟩ = some (.bool al[t]!)) ∧ Below w.heap.size w w' := by
  go_enter Try.func20, Try.ntmps20
  go_wp2_with fail
  refine (moved_two blk off m cap d w hn h1 hb hc).mono ?_
  rintro e w' ⟨al, rfl, h3, h4, h5⟩
  have H4 : Hid _ := h4
  clear h4 hc
  go_wp2
  go_ret
  exact ⟨al, rfl, h3, H4.out, h5⟩
theorem zzmoved_short (a : Option Addr) (n cap : Nat) (w : World) (hn : n ≤ 1) :
    Calls Try.prog 20 #[.slice a n cap] w fun e w' => ∃ al : Array Bool, e = .returned (.slice (some ⟨w.heap.size, 0, none⟩) n n) ∧ (∀ t, t < n → al[t]! = true) ∧ (∀ t, t < n → w'.cell? ⟨w.heap.size, t, none⟩ = some (.bool al[t]!)) ∧ Below w.heap.size w w' := by
  go_enter Try.func20, Try.ntmps20
  go_wp2_with fail
  refine (moved_short a n cap w hn).mono ?_
  rintro e w' ⟨al, _, rfl, h3, h4, h5⟩
  have H3 : Hid _ := h3
  have H4 : Hid _ := h4
  clear h3 h4
  go_wp2
  go_ret
  exact ⟨al, rfl, H3.out, H4.out, h5⟩

theorem sides_big (a : Option Addr) (n cap : Nat) (w : World) (hn : 131072 < n) :
    Calls Try.prog 6 #[.slice a n cap] w fun e w' => e = .returned (.bool true) ∧ Below w.heap.size w w' := by
  by_cases hb : n ≤ 1048576
  · go_enter Try.func6, Try.ntmps6
    go_wp2_with (go_at_call 18; refine (bytes18_yes a n cap _ hb).mono ?_; rintro e w' ⟨rfl, rfl⟩)
    go_ret
    exact ⟨rfl, Below.refl _ _⟩
  · go_enter Try.func6, Try.ntmps6
    go_wp2_with (go_at_call 18; refine (bytes18_no a n cap _ (by omega)).mono ?_; rintro e w' ⟨rfl, rfl⟩)
    go_ret
    exact ⟨rfl, Below.refl _ _⟩

set_option maxRecDepth 100000 in
set_option maxHeartbeats 1000000 in
/-- No level, or one. -/
theorem sides_short (a : Option Addr) (n cap : Nat) (d : Array Nat) (w : World) (hn : n ≤ 1) (h : IsFRow w a n cap d) :
    Calls Try.prog 6 #[.slice a n cap] w fun e w' => e = .returned (.bool true) ∧ Below w.heap.size w w' := by
  have hnil := fun w a n c => Lib.run_eql_slice_nil (P := Try.prog) w 32 4 a n c 0 0 Try.underlying32
  have hd1 : decide ((131072 : Int) < (n : Int)) = false := decide_eq_false (by omega)
  have hd2 : decide ((2 : Int) ≤ (n : Int)) = false := decide_eq_false (by omega)
  have hd3 : decide ((n : Int) < 2) = true := decide_eq_true (by omega)
  go_enter Try.func6, Try.ntmps6
  go_wp2_with (go_at_call 18; refine (bytes18_yes a n cap _ (by omega)).mono ?_; rintro e w' ⟨rfl, rfl⟩)
  refine (clone_row a n cap d w (by omega) h).mono ?_
  rintro e w1 hor
  obtain ⟨a', c', w1', rfl, rfl, hb1⟩ : ∃ a' c' w1', e = .returned (.slice a' n c') ∧ w1 = w1' ∧ Below w.heap.size w w1' := by
    rcases hor with ⟨_, rfl, rfl, rfl⟩ | ⟨_, rfl, rfl⟩
    · exact ⟨_, _, _, rfl, rfl, Below.refl _ _⟩
    · exact ⟨_, _, _, rfl, rfl, (Below.refl _ _).alloc (Nat.le_refl _) _⟩
  clear hor h
  go_wp2_with fail
  refine (zzmoved_short a' n c' w1 hn).mono ?_
  rintro e w2 ⟨al, rfl, hal, hc2, hb2⟩
  have hbel : Below w.heap.size w w2 := hb1.trans (hb2.mono hb1.size)
  have HAL : Hid _ := hal
  have HC2 : Hid _ := hc2
  clear hal hc2 hb1 hb2
  go_wp2
  clear hnil
  go_loop [7] (fun v => ∃ k : Nat, v = .int .i64 k ∧ k ≤ n) (fun v => n - (intOf v).toNat)
  case atStart => exact ⟨0, rfl, Nat.zero_le _⟩
  case round =>
    obtain ⟨k, rfl, hk⟩ := hrel
    by_cases hlt : k < n
    · have c := HC2.out k hlt
      rw [HAL.out k hlt] at c
      go_wp2
      go_round
      case rel => exact ⟨k + 1, by go_num, by omega⟩
      case measure => simp [intOf]; omega
    · go_wp2
      go_ret
      exact ⟨rfl, hbel⟩

set_option maxRecDepth 100000 in
set_option maxHeartbeats 4000000 in
/-- m + 1 levels, m ≥ 1. -/
theorem sides_two (blk off m cap : Nat) (d : Array Nat) (w : World) (hm : m ≤ 131071) (h1 : 1 ≤ m) (hb : blk < w.heap.size) (hd : d.size = m + 1) (hc : ∀ t, t < m + 1 → w.cell? ⟨blk, off + t, none⟩ = some (.float .f64 d[t]!)) :
    Calls Try.prog 6 #[.slice (some ⟨blk, off, none⟩) (m + 1) cap] w fun e w' => e = .returned (.bool true) ∧ Below w.heap.size w w' := by
  have hmk2 := run_make_row' (P := Try.prog) 22 25 (.float .f64 0) 8 Try.underlying22 Try.info25 rfl .i64 .i64 m (by omega) (by omega)
  have hnil := fun w a n c => Lib.run_eql_slice_nil (P := Try.prog) w 32 4 a n c 0 0 Try.underlying32
  have ec : ((m + 1 : Nat) : Int) = (m : Int) + 1 := by omega
  have hd1 : decide ((131072 : Int) < (m : Int) + 1) = false := decide_eq_false (by omega)
  have hd2 : decide ((2 : Int) ≤ (m : Int) + 1) = true := decide_eq_true (by omega)
  have hd3 : decide ((m : Int) + 1 < 2) = false := decide_eq_false (by omega)
  have HD : Hid (d.size = m + 1) := hd
  have HC : Hid _ := hc
  have HNIL : Hid _ := hnil
  clear hd hc hnil
  go_enter Try.func6, Try.ntmps6
  go_wp2_with (go_at_call 18; refine (bytes18_yes _ (m + 1) cap _ (by omega)).mono ?_; rintro e w' ⟨rfl, rfl⟩)
  clear hmk2
  go_loopw [5] (fun vj wr => ∃ (j q : Nat) (mv : Array Nat), vj = .int .i64 ((j : Int) + 1) ∧ j ≤ m ∧ mv.size = m ∧ (∀ t, t < j → Quo d[t + 1]! d[t]! mv[t]!) ∧ (∀ t, t < j → Fl.isN mv[t]! = false) ∧ wr = (w.alloc (.cells (movs mv) 25)).drewN q) (fun vj _ => m + 1 - (intOf vj).toNat)
  case atStart => exact ⟨0, 0, Array.replicate m 0, by go_num, Nat.zero_le _, by simp, fun t h => by omega, fun t h => by omega, by rw [← movs_zero]; rfl⟩
  case round =>
    obtain ⟨j, q, mv, rfl, hj, hmv, hquo, hnan, rfl⟩ := hrel
    have HQ : Hid (∀ t, t < j → Quo d[t + 1]! d[t]! mv[t]!) := hquo
    have HNA : Hid (∀ t, t < j → Fl.isN mv[t]! = false) := hnan
    have HM : Hid (mv.size = m) := hmv
    clear hquo hnan hmv
    by_cases hlt : j < m
    · obtain ⟨x, hx⟩ : ∃ x, d[j + 1]! = x := ⟨_, rfl⟩
      obtain ⟨y, hy⟩ : ∃ y, d[j]! = y := ⟨_, rfl⟩
      have c1 : w.cell? ⟨blk, off + (j + 1), none⟩ = some (.float .f64 x) := by rw [← hx]; exact HC.out (j + 1) (by omega)
      have c0 : w.cell? ⟨blk, off + j, none⟩ = some (.float .f64 y) := by rw [← hy]; exact HC.out j (by omega)
      have c2 : (movs mv)[j]? = some (.float .f64 mv[j]!) := movs_get mv j (by rw [HM.out]; exact hlt)
      have hq := fun w => run_quo (P := Try.prog) 25 x y w
      have HX : Hid (d[j + 1]! = x) := hx
      have HY : Hid (d[j]! = y) := hy
      clear hx hy
      go_wp2
      go_region
      all_goals go_wp2_with fail
      have hr := quo_quoV x y ((w.alloc (.cells (movs mv) 25)).drewN (q + 1))
      generalize quoV x y ((w.alloc (.cells (movs mv) 25)).drewN (q + 1)) = r at hr ⊢
      have HR : Hid _ := hr
      have cb := isNaN_any r
      clear hr hq
      have hwld : ((w.alloc (.cells (movs mv) 25)).drewN (q + 1 + quoD x y)).setCell ⟨w.heap.size, j, none⟩ (.float .f64 r) = (w.alloc (.cells (movs (mv.setIfInBounds j r)) 25)).drewN (q + 1 + quoD x y) := by
        rw [← movs_set, ← World.setCell_alloc_at _ _ w.heap.size _ _ rfl]
        rfl
      rw [hwld]
      clear hwld
      have hbel : Below w.heap.size w ((w.alloc (.cells (movs (mv.setIfInBounds j r)) 25)).drewN (q + 1 + quoD x y)) := bel_drewN ((Below.refl _ _).alloc (Nat.le_refl _) _) _
      cases hb : Fl.isN r with
      | true =>
        rw [hb] at cb
        have CB : Hid _ := cb
        clear cb hb
        refine (CB.out _).mono ?_
        rintro e w' ⟨rfl, rfl⟩
        go_wp2
        go_ret
        exact ⟨rfl, hbel⟩
      | false =>
        rw [hb] at cb
        have CB : Hid _ := cb
        have HB : Hid _ := hb
        clear cb hb
        refine (CB.out _).mono ?_
        rintro e w' ⟨rfl, rfl⟩
        go_wp2
        go_roundw
        case rel =>
          refine ⟨j + 1, q + 1 + quoD x y, mv.setIfInBounds j r, by go_num, by omega, by simp [HM.out], fun t ht => ?_, fun t ht => ?_, rfl⟩
          · by_cases e : t = j
            · subst e
              rw [getElem!_set_same mv t r (by rw [HM.out]; exact hlt), HX.out, HY.out]
              exact HR.out
            · rw [getElem!_set_other mv j t r e]
              exact HQ.out t (by omega)
          · by_cases e : t = j
            · subst e
              rw [getElem!_set_same mv t r (by rw [HM.out]; exact hlt)]
              exact HB.out
            · rw [getElem!_set_other mv j t r e]
              exact HNA.out t (by omega)
        case measure => simp [intOf]; omega
    · obtain rfl : m = j := by omega
      have hNN : Hid (NN mv) := fun t ht => HNA.out t (by rw [← HM.out]; exact ht)
      have hH1 : Holds enc ((w.alloc (.cells (movs mv) 25)).drewN q) w.heap.size 0 mv := by
        intro t ht
        rw [Nat.zero_add, World.cell?_drewN, World.frozen?_drewN, World.cell?_alloc_at _ _ _ _ rfl, World.frozen?_alloc_at _ _ _ _ rfl]
        exact ⟨movs_get mv t ht, rfl⟩
      have hbel1 : Below w.heap.size w ((w.alloc (.cells (movs mv) 25)).drewN q) := bel_drewN ((Below.refl _ _).alloc (Nat.le_refl _) _) _
      have hsz1 : ((w.alloc (.cells (movs mv) 25)).drewN q).heap.size = w.heap.size + 1 := by simp
      have hlv1 : ∀ t, t < m + 1 → ((w.alloc (.cells (movs mv) 25)).drewN q).cell? ⟨blk, off + t, none⟩ = some (.float .f64 d[t]!) := fun t ht => (hbel1.cell hb).trans (HC.out t ht)
      generalize (w.alloc (.cells (movs mv) 25)).drewN q = w1 at hH1 hbel1 hsz1 hlv1 ⊢
      have HH1 : Hid _ := hH1
      have HSZ1 : Hid _ := hsz1
      have HLV1 : Hid _ := hlv1
      clear hH1 hsz1 hlv1 HC
      go_wp2_with fail
      refine (clone_some blk off (m + 1) cap d w1 (by omega) (.inr (by rw [HSZ1.out]; omega)) HLV1.out).mono ?_
      rintro e w2 ⟨rfl, hw2⟩
      rw [HSZ1.out]
      have hL2 : Hid (Holds enc w2 (w.heap.size + 1) 0 d) := by
        have := holds_copy w1 d (m + 1) HD.out
        rw [← hw2, HSZ1.out] at this
        exact this
      have hM2 : Hid (Holds enc w2 w.heap.size 0 mv) := by
        show Holds _ _ _ _ _
        rw [hw2]
        exact holds_alloc _ (by rw [HSZ1.out]; omega) HH1.out
      have hbel2 : Below w.heap.size w w2 := by rw [hw2]; exact hbel1.alloc (by rw [HSZ1.out]; omega) _
      have hsz2 : Hid (w2.heap.size = w.heap.size + 2) := by
        show _ = _
        rw [hw2]
        simp [HSZ1.out]
      clear hw2 HH1 HSZ1 hbel1 HLV1
      go_wp2_with fail
      refine (zzmoved_alike (w.heap.size + 1) 0 m (m + 1) d w2 (by omega) h1 (by rw [hsz2.out]; omega) (fun t ht => (hL2.out t (by rw [HD.out]; exact ht)).1)).mono ?_
      rintro e w3 ⟨al, rfl, hal, hc3, hbel23⟩
      rw [hsz2.out]
      have hA3 : Hid (∀ t, t < m + 1 → w3.cell? ⟨w.heap.size + 2, t, none⟩ = some (.bool al[t]!)) := by
        show ∀ t, t < m + 1 → _
        rw [← hsz2.out]
        exact hc3
      have hM3 : Hid (∀ t, t < m → w3.cell? ⟨w.heap.size, 0 + t, none⟩ = some (.float .f64 mv[t]!)) := fun t ht => by
        rw [hbel23.cell (show w.heap.size < _ by rw [hsz2.out]; omega)]
        exact (hM2.out t (by rw [HM.out]; exact ht)).1
      have hbel3 : Below w.heap.size w w3 := hbel2.trans (hbel23.mono (by rw [hsz2.out]; omega))
      have hsz3 : Hid (w.heap.size + 2 ≤ w3.heap.size) := by
        have := hbel23.size
        rw [hsz2.out] at this
        exact this
      have hblk3 : Hid (w.heap.size + 2 < w3.heap.size) := World.block_lt_of_cell? _ _ (hA3.out 0 (by omega))
      clear hc3 hbel23 hsz2 hM2 hL2 hbel2
      have hnil := HNIL.out
      go_wp2_with fail
      clear hnil
      refine (sorted_any w.heap.size 0 m m mv w3 (by omega) HM.out (.inr (by have := hblk3.out; omega)) hM3.out).mono ?_
      rintro e w4 ⟨A, s, rfl, hA, hs, hps, hso, hHs, hbel34⟩
      have hlaw := alike_law h1 hal HM.out HQ.out hNN.out hs hso hps
      have hS4 : Hid (∀ t, t < m → w4.cell? ⟨A, t, none⟩ = some (.float .f64 s[t]!)) := fun t ht => by
        have g := (hHs t (by rw [hs]; exact ht)).1
        rw [Nat.zero_add] at g
        exact g
      have hM4 : Hid (∀ t, t < m → w4.cell? ⟨w.heap.size, t, none⟩ = some (.float .f64 mv[t]!)) := fun t ht => by
        have g := hM3.out t ht
        rw [Nat.zero_add] at g
        rw [hbel34.cell (show w.heap.size < _ by have := hblk3.out; omega)]
        exact g
      have hA4 : Hid (∀ t, t < m + 1 → w4.cell? ⟨w.heap.size + 2, t, none⟩ = some (.bool al[t]!)) := fun t ht => by
        rw [hbel34.cell (show w.heap.size + 2 < _ from hblk3.out)]
        exact hA3.out t ht
      have hbel4 : Below w.heap.size w w4 := hbel3.trans (hbel34.mono (by have := hsz3.out; omega))
      clear hal hs hps hso hHs hbel34 hbel3 hblk3 hsz3 hM3 hA3 HNIL HQ HNA hNN hA
      obtain ⟨g, hg⟩ : ∃ g, s[m / 2]! = g := ⟨_, rfl⟩
      obtain ⟨l, hl⟩ : ∃ l, mv[m - 1]! = l := ⟨_, rfl⟩
      have cg := hS4.out (m / 2) (by omega)
      have cl := hM4.out (m - 1) (by omega)
      rw [hg] at cg hlaw
      rw [hl] at cl hlaw
      obtain ⟨L, hL⟩ : ∃ L, Fl.ge l g = L := ⟨_, rfl⟩
      rw [hL] at hlaw
      have HLAW : Hid _ := hlaw
      have hL' : (FloatKind.f64.format.order l g == some Ordering.gt || FloatKind.f64.format.order l g == some Ordering.eq) = L := hL
      clear hg hl hlaw hS4 hL
      go_wp2
      clear hL' cg cl
      go_loop [11, 12] (fun v11 v12 => ∃ (j : Nat) (b : Bool), v12 = .int .i64 j ∧ 1 ≤ j ∧ j ≤ m ∧ v11 = .bool b ∧ (b = true ↔ ∃ t, 1 ≤ t ∧ t < j ∧ Fl.ge mv[t - 1]! g = L)) (fun _ v12 => m - (intOf v12).toNat)
      case atStart => exact ⟨1, false, rfl, by omega, by omega, rfl, ⟨fun h => (by cases h), fun ⟨t, a1, a2, _⟩ => by omega⟩⟩
      case round =>
        obtain ⟨j, b, rfl, hj1, hj2, rfl, hbt⟩ := hrel
        have HBT : Hid _ := hbt
        clear hbt
        by_cases hjm : j < m
        · obtain ⟨x, hx⟩ : ∃ x, mv[j - 1]! = x := ⟨_, rfl⟩
          have cx := hM4.out (j - 1) (by omega)
          rw [hx] at cx
          obtain ⟨X, hX⟩ : ∃ X, Fl.ge x g = X := ⟨_, rfl⟩
          have hX' : (FloatKind.f64.format.order x g == some Ordering.gt || FloatKind.f64.format.order x g == some Ordering.eq) = X := hX
          have HX : Hid (Fl.ge mv[j - 1]! g = X) := by show _ = _; rw [hx]; exact hX
          clear hx hX
          by_cases hXL : X = L
          · have hxl : (X == L) = true := by rw [hXL]; simp
            have HXL : Hid _ := hXL
            clear hXL
            go_wp2
            go_round
            case rel => exact ⟨j + 1, true, by go_num, by omega, by omega, rfl, ⟨fun _ => ⟨j, hj1, by omega, by rw [HX.out]; exact HXL.out⟩, fun _ => rfl⟩⟩
            case measure => simp [intOf]; omega
          · have hxl : (X == L) = false := by simp [hXL]
            have HXL : Hid _ := hXL
            clear hXL
            go_wp2
            go_round
            case rel => exact ⟨j + 1, b, by go_num, by omega, by omega, rfl, HBT.out.trans ⟨fun ⟨t, a1, a2, a3⟩ => ⟨t, a1, by omega, a3⟩, fun ⟨t, a1, a2, a3⟩ => ⟨t, a1, by
              by_cases e : t = j
              · rw [e, HX.out] at a3; exact absurd a3 HXL.out
              · omega, a3⟩⟩⟩
            case measure => simp [intOf]; omega
        · obtain rfl : m = j := by omega
          cases b with
          | true =>
            obtain ⟨_, ha0, ha1⟩ : (∃ t, 1 ≤ t ∧ t < m ∧ Fl.ge mv[t - 1]! g = L) ∧ al[0]! = false ∧ (∀ t, t < m → al[t + 1]! = (Fl.ge mv[t]! g == L)) := by
              rcases HLAW.out with h | h
              · exact h
              · exact absurd (HBT.out.1 rfl) h.1
            have HA0 : Hid _ := ha0
            have HA1 : Hid _ := ha1
            clear ha0 ha1
            go_wp2
            go_loop [13] (fun v => ∃ k : Nat, v = .int .i64 k ∧ k ≤ m + 1) (fun v => m + 1 - (intOf v).toNat)
            case atStart => exact ⟨0, rfl, Nat.zero_le _⟩
            case round =>
              obtain ⟨k, rfl, hk⟩ := hrel
              by_cases hkm : k < m + 1
              · have ck := hA4.out k hkm
                by_cases hk0 : k = 0
                · rw [hk0, HA0.out, ← hk0] at ck
                  have gd : decide ((1 : Int) ≤ (k : Int)) = false := decide_eq_false (by omega)
                  have gd' : decide (1 ≤ k) = false := decide_eq_false (by omega)
                  have HK0 : Hid _ := hk0
                  clear hk0
                  go_wp2
                  go_round
                  case rel => exact ⟨k + 1, by go_num, by omega⟩
                  case measure => simp [intOf]; omega
                · obtain ⟨x, hx⟩ : ∃ x, mv[k - 1]! = x := ⟨_, rfl⟩
                  have cx := hM4.out (k - 1) (by omega)
                  have hal := HA1.out (k - 1) (by omega)
                  rw [show k - 1 + 1 = k by omega] at hal
                  rw [hx] at cx hal
                  obtain ⟨X, hX⟩ : ∃ X, Fl.ge x g = X := ⟨_, rfl⟩
                  have hX' : (FloatKind.f64.format.order x g == some Ordering.gt || FloatKind.f64.format.order x g == some Ordering.eq) = X := hX
                  rw [hX] at hal
                  rw [hal] at ck
                  have gd : decide ((1 : Int) ≤ (k : Int)) = true := decide_eq_true (by omega)
                  have gd' : decide (1 ≤ k) = true := decide_eq_true (by omega)
                  have gd2 : (1 : Int) ≤ (k : Int) := by omega
                  clear hx hX hal
                  go_wp2
                  go_round
                  case rel => exact ⟨k + 1, by go_num, by omega⟩
                  case measure => simp [intOf]; omega
              · go_wp2
                go_ret
                exact ⟨rfl, hbel4⟩
          | false =>
            obtain ⟨_, ha1⟩ : (¬ ∃ t, 1 ≤ t ∧ t < m ∧ Fl.ge mv[t - 1]! g = L) ∧ ∀ t, t < m + 1 → al[t]! = true := by
              rcases HLAW.out with h | h
              · have := HBT.out.2 h.1; cases this
              · exact h
            have HA1 : Hid _ := ha1
            clear ha1
            go_wp2
            go_loop [13] (fun v => ∃ k : Nat, v = .int .i64 k ∧ k ≤ m + 1) (fun v => m + 1 - (intOf v).toNat)
            case atStart => exact ⟨0, rfl, Nat.zero_le _⟩
            case round =>
              obtain ⟨k, rfl, hk⟩ := hrel
              by_cases hkm : k < m + 1
              · have ck := hA4.out k hkm
                rw [HA1.out k hkm] at ck
                go_wp2
                go_round
                case rel => exact ⟨k + 1, by go_num, by omega⟩
                case measure => simp [intOf]; omega
              · go_wp2
                go_ret
                exact ⟨rfl, hbel4⟩
end Go.Proofs.Qxb6602921a
