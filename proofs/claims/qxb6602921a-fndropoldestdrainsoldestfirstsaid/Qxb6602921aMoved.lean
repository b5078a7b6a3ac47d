/-
  The walks of slices.Index, slices.Contains (at []bool) and of movedAlike.
-/
import Derived.Test.Qxb6602921aNth
import Derived.Test.Qxb6602921aQuo
namespace Go.Proofs.Qxb6602921a
open Go.RowKit Go.Sort
attribute [local go_sem] run_store_float

set_option maxHeartbeats 400000 in
theorem index_any (blk off n cap : Nat) (f : Nat → Bool) (w : World) (hn : n ≤ 1048576) (hc : ∀ t, t < n → w.cell? ⟨blk, off + t, none⟩ = some (.bool (f t))) :
    Calls Try.prog 40 #[.slice (some ⟨blk, off, none⟩) n cap, .bool true] w fun e w' => ∃ r : Int, e = .returned (.int .i64 r) ∧ w' = w ∧ -1 ≤ r ∧ r ≤ n ∧ (0 ≤ r ↔ ∃ t, t < n ∧ f t = true) := by
  go_enter Try.func40, Try.ntmps40
  go_wp2
  go_loop [8] (fun v => ∃ k : Nat, v = .int .i64 k ∧ k ≤ n ∧ ∀ t, t < k → f t = false) (fun v => n - (intOf v).toNat)
  case atStart => exact ⟨0, rfl, Nat.zero_le _, fun t h => by omega⟩
  case round =>
    obtain ⟨k, rfl, hk, hf⟩ := hrel
    by_cases hlt : k < n
    · go_wp2
      · have hy : f k = true := by assumption
        go_ret
        exact ⟨k, rfl, rfl, by omega, by omega, ⟨fun _ => ⟨k, hlt, hy⟩, fun _ => by omega⟩⟩
      · have hy : f k = false := by assumption
        go_round
        case rel => exact ⟨k + 1, by go_num, by omega, fun t ht => by
          by_cases e : t = k
          · rw [e]; exact hy
          · exact hf t (by omega)⟩
        case measure => simp [intOf]; omega
    · go_wp2
      go_ret
      exact ⟨-1, rfl, rfl, by omega, by omega, ⟨fun h => by omega, fun ⟨t, h1, h2⟩ => by rw [hf t (by omega)] at h2; cases h2⟩⟩

theorem ret_bool {a b : Bool} (h : a = b) : Ending.returned (.bool a) = .returned (.bool b) := by rw [h]
set_option maxHeartbeats 400000 in
theorem contains_any (blk off n cap : Nat) (f : Nat → Bool) (w : World) (hn : n ≤ 1048576) (hc : ∀ t, t < n → w.cell? ⟨blk, off + t, none⟩ = some (.bool (f t))) :
    Calls Try.prog 37 #[.slice (some ⟨blk, off, none⟩) n cap, .bool true] w fun e w' => ∃ r : Bool, e = .returned (.bool r) ∧ w' = w ∧ (r = true ↔ ∃ t, t < n ∧ f t = true) := by
  go_enter Try.func37, Try.ntmps37
  go_wp2_with (go_at_call 40; refine (index_any blk off n cap f _ hn hc).mono ?_; rintro e w' ⟨r, rfl, rfl, h1, h2, h3⟩; have H3 : Hid _ := h3; clear h3)
  go_ret
  exact ⟨decide (0 ≤ r), rfl, rfl, by rw [decide_eq_true_iff]; exact H3.out⟩

/-- Quotients laid so far. -/
def movs (mv : Array Nat) : Array Value := mv.map (Value.float .f64)
theorem movs_set (mv : Array Nat) (i x : Nat) : (movs mv).setIfInBounds i (.float .f64 x) = movs (mv.setIfInBounds i x) := by
  unfold movs
  apply Array.ext_getElem?
  intro t
  simp only [Array.getElem?_setIfInBounds, Array.getElem?_map, Array.size_map]
  by_cases h : i = t
  · subst h; by_cases h2 : i < mv.size <;> simp [h2]
  · simp [h]
theorem movs_get (mv : Array Nat) (t : Nat) (h : t < mv.size) : (movs mv)[t]? = some (.float .f64 mv[t]!) := by
  unfold movs
  simp [h]
theorem movs_zero (n : Nat) : madeCells #[Value.float .f64 0] n = movs (Array.replicate n 0) := by
  unfold movs madeCells
  apply Array.ext_getElem?
  intro t
  by_cases h : t < n <;> simp [h, Nat.mod_one]

theorem put_one {α : Type} [Inhabited α] (enc : α → Value) (W : World) (b q r i : Nat) (d : Array α) (x : α) (hi : i < d.size) :
    (((putRow enc W b 0 d).drewN q).drewN r).setCell ⟨b, i, none⟩ (enc x) = (putRow enc W b 0 (d.setIfInBounds i x)).drewN (q + r) := by
  rw [← putRow_set enc W b 0 d i x hi, Nat.zero_add, World.drewN_drewN]
  rfl

/-- What movedAlike answers where there are m + 1 levels, m ≥ 1. -/
structure Alike (d : Array Nat) (m : Nat) (al : Array Bool) : Prop where
  size : al.size = m + 1
  is : ∃ (mv dk : Array Nat), mv.size = m ∧ (∀ t, t < m → Quo d[t + 1]! d[t]! mv[t]!) ∧ Post mv m (m / 2) dk ∧
    ((∃ s, 1 ≤ s ∧ s < m ∧ Fl.ge mv[s - 1]! dk[m / 2]! = Fl.ge mv[m - 1]! dk[m / 2]!) ∧ al[0]! = false ∧ (∀ t, t < m → al[t + 1]! = (Fl.ge mv[t]! dk[m / 2]! == Fl.ge mv[m - 1]! dk[m / 2]!)) ∨
     (¬ ∃ s, 1 ≤ s ∧ s < m ∧ Fl.ge mv[s - 1]! dk[m / 2]! = Fl.ge mv[m - 1]! dk[m / 2]!) ∧ ∀ t, t < m + 1 → al[t]! = true)

theorem alike_some {m : Nat} {al : Array Bool} {mv : Array Nat} {med last : Nat} (h0 : al[0]! = false) (h2 : ∀ t, t < m → al[t + 1]! = (Fl.ge mv[t]! med == Fl.ge last med)) :
    (∃ t, t < m ∧ al[t]! = true) ↔ ∃ s, 1 ≤ s ∧ s < m ∧ Fl.ge mv[s - 1]! med = Fl.ge last med := by
  constructor
  · rintro ⟨t, h1, h3⟩
    cases t with
    | zero => rw [h0] at h3; cases h3
    | succ t => rw [h2 t (by omega)] at h3; exact ⟨t + 1, by omega, h1, by simpa using h3⟩
  · rintro ⟨s, h1, h3, h4⟩
    refine ⟨s, h3, ?_⟩
    obtain ⟨t, rfl⟩ : ∃ t, s = t + 1 := ⟨s - 1, by omega⟩
    rw [h2 t (by omega)]
    simpa using h4
theorem alike_yes {d : Array Nat} {m : Nat} {al : Array Bool} {mv dk : Array Nat} {med last : Nat} (hs : al.size = m + 1) (h0 : al[0]! = false) (h2 : ∀ t, t < m → al[t + 1]! = (Fl.ge mv[t]! med == Fl.ge last med))
    (hmv : mv.size = m) (hq : ∀ t, t < m → Quo d[t + 1]! d[t]! mv[t]!) (hp : Post mv m (m / 2) dk) (hmed : dk[m / 2]! = med) (hlast : mv[m - 1]! = last) (hr : ∃ t, t < m ∧ al[t]! = true) : Alike d m al := by
  subst hmed; subst hlast
  exact ⟨hs, mv, dk, hmv, hq, hp, .inl ⟨(alike_some h0 h2).1 hr, h0, h2⟩⟩
theorem alike_no {d : Array Nat} {m : Nat} {al al' : Array Bool} {mv dk : Array Nat} {med last : Nat} (h0 : al[0]! = false) (h2 : ∀ t, t < m → al[t + 1]! = (Fl.ge mv[t]! med == Fl.ge last med))
    (hmv : mv.size = m) (hq : ∀ t, t < m → Quo d[t + 1]! d[t]! mv[t]!) (hp : Post mv m (m / 2) dk) (hmed : dk[m / 2]! = med) (hlast : mv[m - 1]! = last) (hr : ¬ ∃ t, t < m ∧ al[t]! = true)
    (hs : al'.size = m + 1) (ht : ∀ t, t < m + 1 → al'[t]! = true) : Alike d m al' := by
  subst hmed; subst hlast
  exact ⟨hs, mv, dk, hmv, hq, hp, .inr ⟨fun h => hr ((alike_some h0 h2).2 h), ht⟩⟩

set_option maxRecDepth 100000 in
set_option maxHeartbeats 1000000 in
theorem moved_two (blk off m cap : Nat) (d : Array Nat) (w : World) (hn : m ≤ 1048576) (hm : 1 ≤ m) (hb : blk < w.heap.size) (hc : ∀ t, t < m + 1 → w.cell? ⟨blk, off + t, none⟩ = some (.float .f64 d[t]!)) :
    Calls Try.prog 33 #[.slice (some ⟨blk, off, none⟩) (m + 1) cap] w fun e w' => ∃ al, e = .returned (.slice (some ⟨w.heap.size, 0, none⟩) (m + 1) (m + 1)) ∧ Alike d m al ∧ (∀ t, t < m + 1 → w'.cell? ⟨w.heap.size, t, none⟩ = some (.bool al[t]!)) ∧ Below w.heap.size w w' := by
  have hmk1 := run_make_row' (P := Try.prog) 32 4 (.bool false) 1 Try.underlying32 Try.info4 rfl .i64 .i64 (m + 1) (by omega) (by omega)
  have hmk2 := run_make_row' (P := Try.prog) 22 25 (.float .f64 0) 8 Try.underlying22 Try.info25 rfl .i64 .i64 m (by omega) (by omega)
  have ec : ((m + 1 : Nat) : Int) = (m : Int) + 1 := by omega
  rw [ec] at hmk1
  have hd2 : decide ((2 : Int) ≤ (m : Int) + 1) = true := decide_eq_true (by omega)
  go_enter Try.func33, Try.ntmps33
  go_wp2
  clear hmk1 hmk2
  go_loopw [6] (fun vj wr => ∃ (j q : Nat) (mv : Array Nat), vj = .int .i64 ((j : Int) + 1) ∧ j ≤ m ∧ mv.size = m ∧ (∀ t, t < j → Quo d[t + 1]! d[t]! mv[t]!) ∧ wr = ((w.alloc (.cells (madeCells #[.bool false] (m + 1)) 4)).alloc (.cells (movs mv) 25)).drewN q) (fun vj _ => m + 1 - (intOf vj).toNat)
  case atStart => exact ⟨0, 0, Array.replicate m 0, by go_num, Nat.zero_le _, by simp, fun t h => by omega, by rw [← movs_zero]; rfl⟩
  case round =>
    obtain ⟨j, q, mv, rfl, hj, hmv, hquo, rfl⟩ := hrel
    by_cases hlt : j < m
    · obtain ⟨x, hx⟩ : ∃ x, d[j + 1]! = x := ⟨_, rfl⟩
      obtain ⟨y, hy⟩ : ∃ y, d[j]! = y := ⟨_, rfl⟩
      have c1 : w.cell? ⟨blk, off + (j + 1), none⟩ = some (.float .f64 x) := by rw [← hx]; exact hc (j + 1) (by omega)
      have c0 : w.cell? ⟨blk, off + j, none⟩ = some (.float .f64 y) := by rw [← hy]; exact hc j (by omega)
      have c2 : (movs mv)[j]? = some (.float .f64 mv[j]!) := movs_get mv j (by omega)
      have hq := fun w => run_quo (P := Try.prog) 25 x y w
      have HX : Hid (d[j + 1]! = x) := hx
      have HY : Hid (d[j]! = y) := hy
      have HQ : Hid (∀ t, t < j → Quo d[t + 1]! d[t]! mv[t]!) := hquo
      clear hx hy hc hquo
      go_wp2
      go_region
      all_goals go_wp2
      go_roundw
      case rel =>
        have hr := quo_quoV x y (((w.alloc (.cells (madeCells #[.bool false] (m + 1)) 4)).alloc (.cells (movs mv) 25)).drewN (q + 1))
        generalize quoV x y _ = r at hr ⊢
        refine ⟨j + 1, q + 1 + quoD x y, mv.setIfInBounds j r, by go_num, by omega, by simp [hmv], fun t ht => ?_, ?_⟩
        · by_cases e : t = j
          · subst e
            rw [getElem!_set_same mv t r (by omega), HX.out, HY.out]
            exact hr
          · rw [getElem!_set_other mv j t r e]
            exact HQ.out t (by omega)
        · rw [← movs_set, ← World.setCell_alloc_at _ _ (w.heap.size + 1) _ _ (by simp)]
          rfl
      case measure => simp [intOf]; omega
    · obtain rfl : m = j := by omega
      have c2 : (movs mv)[m - 1]? = some (.float .f64 mv[m - 1]!) := movs_get mv (m - 1) (by omega)
      have hHm : Holds enc (((w.alloc (.cells (madeCells #[.bool false] (m + 1)) 4)).alloc (.cells (movs mv) 25)).drewN q) (w.heap.size + 1) 0 mv := by
        intro t ht
        rw [Nat.zero_add, World.cell?_drewN, World.frozen?_drewN, World.cell?_alloc_at _ _ _ _ (by simp), World.frozen?_alloc_at _ _ _ _ (by simp)]
        exact ⟨movs_get mv t ht, rfl⟩
      have hal0 : Holds Value.bool (((w.alloc (.cells (madeCells #[.bool false] (m + 1)) 4)).alloc (.cells (movs mv) 25)).drewN q) w.heap.size 0 (Array.replicate (m + 1) false) := by
        intro t ht
        have ht' : t < m + 1 := by simpa using ht
        rw [Nat.zero_add, World.cell?_drewN, World.frozen?_drewN, World.cell?_alloc_past _ _ _ (by simp), World.frozen?_alloc_past _ _ _ (by simp), World.cell?_alloc_at _ _ _ _ rfl, World.frozen?_alloc_at _ _ _ _ rfl]
        simp [madeCells, ht', Nat.mod_one]
      have hlv0 : ∀ t, t < m + 1 → (((w.alloc (.cells (madeCells #[.bool false] (m + 1)) 4)).alloc (.cells (movs mv) 25)).drewN q).cell? ⟨blk, off + t, none⟩ = some (.float .f64 d[t]!) := fun t ht => by
        rw [World.cell?_drewN, World.cell?_alloc_past _ _ _ (by simp; omega), World.cell?_alloc_past _ _ _ hb]
        exact hc t ht
      have hbel0 : Below w.heap.size w (((w.alloc (.cells (madeCells #[.bool false] (m + 1)) 4)).alloc (.cells (movs mv) 25)).drewN q) := bel_drewN (((Below.refl _ _).alloc (Nat.le_refl _) _).alloc (by simp) _) q
      have HM : Hid (mv.size = m) := hmv
      have HQ : Hid (∀ t, t < m → Quo d[t + 1]! d[t]! mv[t]!) := hquo
      clear hmv hquo hc
      go_wp2_with fail
      rw [show ((m : Int) / 2) = ((m / 2 : Nat) : Int) from by omega]
      generalize ((w.alloc (.cells (madeCells #[.bool false] (m + 1)) 4)).alloc (.cells (movs mv) 25)).drewN q = W1 at hHm hal0 hlv0 hbel0 ⊢
      refine (nth_any (w.heap.size + 1) 0 m m (m / 2) mv W1 hHm HM.out (by omega) (by omega)).mono ?_
      rintro e W2 ⟨dk, q2, rfl, hw2, hpost⟩
      have hal : Holds Value.bool W2 w.heap.size 0 (Array.replicate (m + 1) false) := by
        rw [hw2]
        intro t ht
        obtain ⟨g1, g2⟩ := hal0 t ht
        rw [World.cell?_drewN, World.frozen?_drewN, frozen?_putRow, cell?_putRow_other _ _ _ _ _ _ (.inl (by simp))]
        exact ⟨g1, g2⟩
      have hlv : ∀ t, t < m + 1 → W2.cell? ⟨blk, off + t, none⟩ = some (.float .f64 d[t]!) := fun t ht => by
        rw [hw2, World.cell?_drewN, cell?_putRow_other _ _ _ _ _ _ (.inl (by simp; omega))]
        exact hlv0 t ht
      have hbel : Below w.heap.size w W2 := by rw [hw2]; exact bel_drewN (bel_putRow hbel0 enc 0 dk (by omega)) q2
      clear hw2 hal0 hlv0 hbel0 hHm c2
      obtain ⟨med, hmed⟩ : ∃ x, dk[m / 2]! = x := ⟨_, rfl⟩
      obtain ⟨last, hlast⟩ : ∃ x, mv[m - 1]! = x := ⟨_, rfl⟩
      rw [hmed, hlast]
      have HMED : Hid (dk[m / 2]! = med) := hmed
      have HLAST : Hid (mv[m - 1]! = last) := hlast
      clear hmed hlast
      go_wp2
      go_loopw [9] (fun vj wr => ∃ (j q : Nat) (al : Array Bool), vj = .int .i64 ((j : Int) + 1) ∧ j ≤ m ∧ al.size = m + 1 ∧ al[0]! = false ∧ (∀ t, t < j → al[t + 1]! = (Fl.ge mv[t]! med == Fl.ge last med)) ∧ wr = (putRow Value.bool W2 w.heap.size 0 al).drewN q) (fun vj _ => m + 1 - (intOf vj).toNat)
      case atStart => exact ⟨0, 0, Array.replicate (m + 1) false, by go_num, Nat.zero_le _, by simp, by simp, fun t h => by omega, by rw [putRow_self _ _ _ _ _ hal]; rfl⟩
      case round =>
        obtain ⟨j, q3, al, rfl, hj, hals, hal1, hal2, hwr⟩ := hrel
        have hHr : Holds Value.bool wr w.heap.size 0 al := by
          rw [hwr]; exact holds_putRow Value.bool W2 w.heap.size 0 (Array.replicate (m + 1) false) al hal (by simp [hals])
        have HALS : Hid (al.size = m + 1) := hals
        have HAL1 : Hid (al[0]! = false) := hal1
        have HAL2 : Hid (∀ t, t < j → al[t + 1]! = (Fl.ge mv[t]! med == Fl.ge last med)) := hal2
        by_cases hlt : j < m
        · obtain ⟨x, hx⟩ : ∃ x, d[j + 1]! = x := ⟨_, rfl⟩
          obtain ⟨y, hy⟩ : ∃ y, d[j]! = y := ⟨_, rfl⟩
          have c1 : wr.cell? ⟨blk, off + (j + 1), none⟩ = some (.float .f64 x) := by
            rw [← hx, hwr, World.cell?_drewN, cell?_putRow_other _ _ _ _ _ _ (.inl (by simp; omega))]; exact hlv (j + 1) (by omega)
          have c0 : wr.cell? ⟨blk, off + j, none⟩ = some (.float .f64 y) := by
            rw [← hy, hwr, World.cell?_drewN, cell?_putRow_other _ _ _ _ _ _ (.inl (by simp; omega))]; exact hlv j (by omega)
          have c2 := (hHr (j + 1) (by omega)).1
          have c3 := (hHr (j + 1) (by omega)).2
          rw [Nat.zero_add] at c2 c3
          obtain ⟨o, ho⟩ : ∃ o, al[j + 1]! = o := ⟨_, rfl⟩
          rw [ho] at c2
          have hq := fun w => run_quo (P := Try.prog) 25 x y w
          have HX : Hid (d[j + 1]! = x) := hx
          have HY : Hid (d[j]! = y) := hy
          have HW : Hid (wr = (putRow Value.bool W2 w.heap.size 0 al).drewN q3) := hwr
          clear hx hy hwr hHr hals hal1 hal2 hlv hal ho
          go_wp2
          go_region
          all_goals go_wp2
          go_roundw
          case rel =>
            have hr : Fl.ge (quoV x y wr.drew) med = Fl.ge mv[j]! med := quo_ge (quo_quoV x y _) (by rw [← HX.out, ← HY.out]; exact HQ.out j hlt)
            refine ⟨j + 1, q3 + (1 + quoD x y), al.setIfInBounds (j + 1) (Fl.ge (quoV x y wr.drew) med == Fl.ge last med), by go_num, by omega, by simp [HALS.out], ?_, fun t ht => ?_, ?_⟩
            · rw [getElem!_set_other _ _ _ _ (by omega)]; exact HAL1.out
            · by_cases e : t = j
              · subst e
                rw [getElem!_set_same _ _ _ (by rw [HALS.out]; omega), hr]
              · rw [getElem!_set_other _ _ _ _ (by omega)]; exact HAL2.out t (by omega)
            · rw [HW.out]
              exact put_one Value.bool W2 w.heap.size q3 _ (j + 1) al _ (by rw [HALS.out]; omega)
          case measure => simp [intOf]; omega
        · obtain rfl : m = j := by omega
          have hcf : ∀ t, t < m → wr.cell? ⟨w.heap.size, 0 + t, none⟩ = some (.bool al[t]!) := fun t ht => (hHr t (by omega)).1
          have HW : Hid (wr = (putRow Value.bool W2 w.heap.size 0 al).drewN q3) := hwr
          have HH : Hid (Holds Value.bool wr w.heap.size 0 al) := hHr
          clear hwr hHr hals hal1 hal2 hlv
          go_wp2_with fail
          refine (contains_any w.heap.size 0 m (m + 1) (fun t => al[t]!) wr (by omega) hcf).mono ?_
          rintro e W3 ⟨r, rfl, hw3, hr⟩
          have HR : Hid (r = true ↔ ∃ t, t < m ∧ al[t]! = true) := hr
          have HW3 : Hid (W3 = (putRow Value.bool W2 w.heap.size 0 al).drewN q3) := hw3.trans HW.out
          have HH3 : Hid (Holds Value.bool W3 w.heap.size 0 al) := by rw [hw3]; exact HH.out
          clear hr hw3 HW HH hcf
          cases r with
          | true =>
            have hyes : Hid (∃ t, t < m ∧ al[t]! = true) := HR.out.1 rfl
            go_wp2
            go_ret
            refine ⟨al, rfl, alike_yes HALS.out HAL1.out HAL2.out HM.out HQ.out hpost HMED.out HLAST.out hyes.out, fun t ht => ?_, ?_⟩
            · have g := (HH3.out t (by rw [HALS.out]; exact ht)).1
              rw [Nat.zero_add] at g
              exact g
            · rw [HW3.out]; exact bel_drewN (bel_putRow hbel Value.bool 0 al (Nat.le_refl _)) q3
          | false =>
            have hno : Hid (¬ ∃ t, t < m ∧ al[t]! = true) := fun h => by cases HR.out.2 h
            go_wp2
            go_loopw [85] (fun vk wr => ∃ (k : Nat) (bl : Array Bool), vk = .int .i64 k ∧ k ≤ m + 1 ∧ bl.size = m + 1 ∧ (∀ t, t < k → bl[t]! = true) ∧ wr = (putRow Value.bool W2 w.heap.size 0 bl).drewN q3) (fun vk _ => m + 1 - (intOf vk).toNat)
            case atStart => exact ⟨0, al, rfl, Nat.zero_le _, HALS.out, fun t h => by omega, HW3.out⟩
            case round =>
              obtain ⟨k, bl, rfl, hk, hbs, hb2, hwr⟩ := hrel
              have hHr : Holds Value.bool wr w.heap.size 0 bl := by
                rw [hwr]; exact holds_putRow Value.bool W2 w.heap.size 0 (Array.replicate (m + 1) false) bl hal (by simp [hbs])
              have HWR : Hid (wr = (putRow Value.bool W2 w.heap.size 0 bl).drewN q3) := hwr
              have HBS : Hid (bl.size = m + 1) := hbs
              by_cases hlt : k < m + 1
              · have c2 := (hHr k (by omega)).1
                have c3 := (hHr k (by omega)).2
                rw [Nat.zero_add] at c2 c3
                obtain ⟨o, ho⟩ : ∃ o, bl[k]! = o := ⟨_, rfl⟩
                rw [ho] at c2
                clear ho hwr hbs hHr
                go_wp2
                go_roundw
                case rel =>
                  refine ⟨k + 1, bl.setIfInBounds k true, by go_num, by omega, by simp [HBS.out], fun t ht => ?_, ?_⟩
                  · by_cases e : t = k
                    · subst e; rw [getElem!_set_same _ _ _ (by rw [HBS.out]; omega)]
                    · rw [getElem!_set_other _ _ _ _ e]; exact hb2 t (by omega)
                  · rw [HWR.out]
                    exact put_one Value.bool W2 w.heap.size q3 0 k bl true (by rw [HBS.out]; omega)
                case measure => simp [intOf]; omega
              · clear hwr hbs
                go_wp2
                go_ret
                refine ⟨bl, rfl, alike_no HAL1.out HAL2.out HM.out HQ.out hpost HMED.out HLAST.out hno.out HBS.out (fun t ht => hb2 t (by omega)), fun t ht => ?_, ?_⟩
                · have g := (hHr t (by rw [HBS.out]; exact ht)).1
                  rw [Nat.zero_add] at g
                  exact g
                · rw [HWR.out]; exact bel_drewN (bel_putRow hbel Value.bool 0 bl (Nat.le_refl _)) q3
end Go.Proofs.Qxb6602921a
