/-
  FnMovedAlikeShape: the walk.
-/
import Derived.Test.Qxb6602921aMoved
namespace Go.Proofs.Qxb6602921a
open Go.RowKit Go.Sort

set_option maxRecDepth 100000 in
set_option maxHeartbeats 400000 in
theorem moved_short (a : Option Addr) (n cap : Nat) (w : World) (hn : n ≤ 1) :
    Calls Try.prog 33 #[.slice a n cap] w fun e w' => ∃ al : Array Bool, al.size = n ∧ e = .returned (.slice (some ⟨w.heap.size, 0, none⟩) n n) ∧ (∀ t, t < n → al[t]! = true) ∧ (∀ t, t < n → w'.cell? ⟨w.heap.size, t, none⟩ = some (.bool al[t]!)) ∧ Below w.heap.size w w' := by
  have hmk1 := run_make_row' (P := Try.prog) 32 4 (.bool false) 1 Try.underlying32 Try.info4 rfl .i64 .i64 n (by omega) (by omega)
  have hd2 : decide ((2 : Int) ≤ (n : Int)) = false := decide_eq_false (by omega)
  have hd3 : decide ((n : Int) < 2) = true := decide_eq_true (by omega)
  have hal : Holds Value.bool (w.alloc (.cells (madeCells #[.bool false] n) 4)) w.heap.size 0 (Array.replicate n false) := by
    intro t ht
    have ht' : t < n := by simpa using ht
    rw [Nat.zero_add, World.cell?_alloc_at _ _ _ _ rfl, World.frozen?_alloc_at _ _ _ _ rfl]
    simp [madeCells, ht', Nat.mod_one]
  have hbel : Below w.heap.size w (w.alloc (.cells (madeCells #[.bool false] n) 4)) := (Below.refl _ _).alloc (Nat.le_refl _) _
  go_enter Try.func33, Try.ntmps33
  go_wp2
  clear hmk1
  generalize w.alloc (.cells (madeCells #[.bool false] n) 4) = W2 at hal hbel ⊢
  go_loopw [85] (fun vk wr => ∃ (k : Nat) (bl : Array Bool), vk = .int .i64 k ∧ k ≤ n ∧ bl.size = n ∧ (∀ t, t < k → bl[t]! = true) ∧ wr = (putRow Value.bool W2 w.heap.size 0 bl).drewN 0) (fun vk _ => n - (intOf vk).toNat)
  case atStart => exact ⟨0, Array.replicate n false, rfl, Nat.zero_le _, by simp, fun t h => by omega, by rw [putRow_self _ _ _ _ _ hal]; rfl⟩
  case round =>
    obtain ⟨k, bl, rfl, hk, hbs, hb2, hwr⟩ := hrel
    have hHr : Holds Value.bool wr w.heap.size 0 bl := by
      rw [hwr]; exact holds_putRow Value.bool W2 w.heap.size 0 (Array.replicate n false) bl hal (by simp [hbs])
    have HWR : Hid (wr = (putRow Value.bool W2 w.heap.size 0 bl).drewN 0) := hwr
    have HBS : Hid (bl.size = n) := hbs
    by_cases hlt : k < n
    · have c2 := (hHr k (by omega)).1
      have c3 := (hHr k (by omega)).2
      rw [Nat.zero_add] at c2 c3
      obtain ⟨o, ho⟩ : ∃ o, bl[k]! = o := ⟨_, rfl⟩
      rw [ho] at c2
      clear ho hwr hbs hHr
      go_wp2
      go_roundw
      case rel =>
        refine ⟨k + 1, bl.setIfInBounds k true, by go_num, by omega, by simp [HBS.out], fun t ht => ?_, ?_⟩
        · by_cases e : t = k
          · subst e; rw [getElem!_set_same _ _ _ (by rw [HBS.out]; omega)]
          · rw [getElem!_set_other _ _ _ _ e]; exact hb2 t (by omega)
        · rw [HWR.out]
          exact put_one Value.bool W2 w.heap.size 0 0 k bl true (by rw [HBS.out]; omega)
      case measure => simp [intOf]; omega
    · clear hwr hbs
      go_wp2
      go_ret
      refine ⟨bl, HBS.out, rfl, fun t ht => hb2 t (by omega), fun t ht => ?_, ?_⟩
      · have g := (hHr t (by rw [HBS.out]; exact ht)).1
        rw [Nat.zero_add] at g
        exact g
      · rw [HWR.out]; exact bel_drewN (bel_putRow hbel Value.bool 0 bl (Nat.le_refl _)) 0

/-- The shape that the law asks of n ≥ 1 answers. -/
structure Shp (n : Nat) (al : Array Bool) : Prop where
  last : al[n - 1]! = true
  first : (al[0]! = true) ↔ ∀ t, t < n → al[t]! = true
  mid : al[0]! = false → ∃ j, 1 ≤ j ∧ j < n - 1 ∧ al[j]! = true

theorem shp_short {n : Nat} {al : Array Bool} (h1 : 1 ≤ n) (h : ∀ t, t < n → al[t]! = true) : Shp n al :=
  ⟨h _ (by omega), ⟨fun _ => h, fun _ => h 0 (by omega)⟩, fun h0 => by rw [h 0 (by omega)] at h0; cases h0⟩
theorem shp_alike {d : Array Nat} {m : Nat} {al : Array Bool} (hm : 1 ≤ m) (h : Alike d m al) : Shp (m + 1) al := by
  obtain ⟨hs, mv, dk, hmv, hq, hp, ⟨⟨s, h1, h2, h3⟩, h4, h5⟩ | ⟨_, h2⟩⟩ := h
  · refine ⟨?_, ⟨fun h => ?_, fun h => ?_⟩, fun _ => ?_⟩
    · rw [show m + 1 - 1 = m - 1 + 1 by omega, h5 (m - 1) (by omega)]; simp
    · rw [h4] at h; cases h
    · exact h 0 (by omega)
    · refine ⟨s, h1, by omega, ?_⟩
      obtain ⟨t, rfl⟩ : ∃ t, s = t + 1 := ⟨s - 1, by omega⟩
      rw [h5 t (by omega)]
      simpa using h3
  · exact shp_short (by omega) h2

/-- movedAlike at one level or more. -/
theorem moved_shape (blk off n cap : Nat) (d : Array Nat) (w : World) (hn : n ≤ 1048576) (h1 : 1 ≤ n) (hb : blk < w.heap.size) (hc : ∀ t, t < n → w.cell? ⟨blk, off + t, none⟩ = some (.float .f64 d[t]!)) :
    Calls Try.prog 33 #[.slice (some ⟨blk, off, none⟩) n cap] w fun e w' => ∃ al, e = .returned (.slice (some ⟨w.heap.size, 0, none⟩) n n) ∧ Shp n al ∧ (∀ t, t < n → w'.cell? ⟨w.heap.size, t, none⟩ = some (.bool al[t]!)) ∧ Below w.heap.size w w' := by
  by_cases h2 : n = 1
  · exact (moved_short (some ⟨blk, off, none⟩) n cap w (by omega)).mono fun e w' ⟨al, _, h3, h4, h5, h6⟩ => ⟨al, h3, shp_short h1 h4, h5, h6⟩
  · obtain ⟨m, rfl⟩ : ∃ m, n = m + 1 := ⟨n - 1, by omega⟩
    exact (moved_two blk off m cap d w (by omega) (by omega) hb hc).mono fun e w' ⟨al, h3, h4, h5, h6⟩ => ⟨al, h3, shp_alike (by omega) h4, h5, h6⟩

theorem zzmoved_shape (blk off n cap : Nat) (d : Array Nat) (w : World) (hn : n ≤ 1048576) (h1 : 1 ≤ n) (hb : blk < w.heap.size) (hc : ∀ t, t < n → w.cell? ⟨blk, off + t, none⟩ = some (.float .f64 d[t]!)) :
    Calls Try.prog 20 #[.slice (some ⟨blk, off, none⟩) n cap] w fun e w' => ∃ al, e = .returned (.slice (some ⟨w.heap.size, 0, none⟩) n n) ∧ Shp n al ∧ (∀ t, t < n → w'.cell? ⟨w.heap.size, t, none⟩ = some (.bool al[t]!)) ∧ Below w.heap.size w w' := by
  go_enter Try.func20, Try.ntmps20
  go_wp2_with fail
  refine (moved_shape blk off n cap d w hn h1 hb hc).mono ?_
  rintro e w' ⟨al, rfl, h3, h4, h5⟩
  have H3 : Hid _ := h3
  have H4 : Hid _ := h4
  clear h4 hc
  go_wp2
  go_ret
  exact ⟨al, rfl, h3, H4.out, h5⟩
theorem zzmoved_zero (a : Option Addr) (cap : Nat) (w : World) :
    Calls Try.prog 20 #[.slice a 0 cap] w fun e w' => e = .returned (.slice (some ⟨w.heap.size, 0, none⟩) 0 0) ∧ Below w.heap.size w w' := by
  go_enter Try.func20, Try.ntmps20
  go_wp2_with fail
  refine (moved_short a 0 cap w (by omega)).mono ?_
  rintro e w' ⟨al, _, rfl, h3, h4, h5⟩
  clear h3 h4
  go_wp2
  go_ret
  exact ⟨rfl, h5⟩

theorem shape_big (a : Option Addr) (n cap : Nat) (w : World) (hn : 131072 < n) :
    Calls Try.prog 7 #[.slice a n cap] w fun e w' => e = .returned (.bool true) ∧ Below w.heap.size w w' := by
  by_cases hb : n ≤ 1048576
  · go_enter Try.func7, Try.ntmps7
    go_wp2_with (go_at_call 22; refine (bytes22_yes a n cap _ hb).mono ?_; rintro e w' ⟨rfl, rfl⟩)
    go_ret
    exact ⟨rfl, Below.refl _ _⟩
  · go_enter Try.func7, Try.ntmps7
    go_wp2_with (go_at_call 22; refine (bytes22_no a n cap _ (by omega)).mono ?_; rintro e w' ⟨rfl, rfl⟩)
    go_ret
    exact ⟨rfl, Below.refl _ _⟩

/-- Behind the copy, no level. -/
theorem shape_zero (a : Option Addr) (cap : Nat) (d : Array Nat) (w : World) (h : IsFRow w a 0 cap d) :
    Calls Try.prog 7 #[.slice a 0 cap] w fun e w' => e = .returned (.bool true) ∧ Below w.heap.size w w' := by
  go_enter Try.func7, Try.ntmps7
  go_wp2_with (go_at_call 22; refine (bytes22_yes a 0 cap _ (by omega)).mono ?_; rintro e w' ⟨rfl, rfl⟩)
  refine (clone_row a 0 cap d w (by omega) h).mono ?_
  rintro e w1 (⟨_, _, rfl, rfl⟩ | ⟨_, rfl, rfl⟩)
  · go_wp2_with (go_at_call 20; refine (zzmoved_zero _ _ _).mono ?_; rintro e w2 ⟨rfl, hb⟩)
    go_ret
    exact ⟨rfl, hb⟩
  · go_wp2_with (go_at_call 20; refine (zzmoved_zero _ _ _).mono ?_; rintro e w2 ⟨rfl, hb⟩)
    go_ret
    exact ⟨rfl, ((Below.refl _ _).alloc (Nat.le_refl _) _).trans (hb.mono (by simp))⟩

set_option maxRecDepth 100000 in
set_option maxHeartbeats 1000000 in
theorem shape_some (a : Option Addr) (n cap : Nat) (d : Array Nat) (w : World) (hn : n ≤ 131072) (h1 : 1 ≤ n) (h : IsFRow w a n cap d) :
    Calls Try.prog 7 #[.slice a n cap] w fun e w' => e = .returned (.bool true) ∧ Below w.heap.size w w' := by
  have e0 : ((n : Int) == 0) = false := beq_eq_false_iff_ne.2 (by omega)
  go_enter Try.func7, Try.ntmps7
  go_wp2_with (go_at_call 22; refine (bytes22_yes a n cap _ (by omega)).mono ?_; rintro e w' ⟨rfl, rfl⟩)
  refine (clone_row a n cap d w (by omega) h).mono ?_
  rintro e w1 (⟨_, h0, _, _⟩ | ⟨_, rfl, rfl⟩)
  · omega
  have hcl : ∀ t, t < n → (w.alloc (.cells (cl d n n) 25)).cell? ⟨w.heap.size, 0 + t, none⟩ = some (.float .f64 d[t]!) := fun t ht => by
    rw [Nat.zero_add, World.cell?_alloc_at _ _ _ _ rfl, cl_get _ _ _ _ ht, if_pos ht]
  clear h
  go_wp2_with fail
  refine (zzmoved_shape w.heap.size 0 n n d _ (by omega) h1 (by simp) hcl).mono ?_
  rintro e w2 ⟨al, rfl, hshp, hc2, hb2⟩
  have hbel : Below w.heap.size w w2 := ((Below.refl _ _).alloc (Nat.le_refl _) _).trans (hb2.mono (by simp))
  clear hcl hb2
  obtain ⟨f, hf⟩ : ∃ f : Nat → Bool, ∀ t, f t = al[t]! := ⟨fun t => al[t]!, fun _ => rfl⟩
  have hcf : ∀ t, t < n → w2.cell? ⟨w.heap.size + 1, t, none⟩ = some (.bool (f t)) := fun t ht => by
    have := hc2 t ht
    rw [hf]
    simpa using this
  have hl := hshp.last
  have hfi := hshp.first
  have hmi := hshp.mid
  simp only [← hf] at hl hfi hmi
  have HCF : Hid _ := hcf
  have HFI : Hid _ := hfi
  have HMI : Hid _ := hmi
  have hd1 : decide ((131072 : Int) < (n : Int)) = false := decide_eq_false (by omega)
  have HL : Hid _ := hl
  clear hc2 hshp hf hfi hmi hl hcf
  go_wp2
  go_loop [5, 6] (fun vb vi => ∃ (k : Nat) (b : Bool), vi = .int .i64 k ∧ k ≤ n ∧ vb = .bool b ∧ (b = true ↔ ∀ t, t < k → f t = true)) (fun _ vi => n - (intOf vi).toNat)
  case atStart => exact ⟨0, true, rfl, Nat.zero_le _, rfl, ⟨fun _ t h => by omega, fun _ => rfl⟩⟩
  case round =>
    obtain ⟨k, b, rfl, hk, rfl, hb⟩ := hrel
    have HB : Hid _ := hb
    clear hb
    by_cases hlt : k < n
    · have ck := HCF.out k hlt
      cases hfk : f k with
      | true =>
        rw [hfk] at ck
        have HF : Hid _ := hfk
        clear hfk
        go_wp2
        go_round
        case rel => exact ⟨k + 1, b, by go_num, by omega, rfl, HB.out.trans ⟨fun g t ht => by
          by_cases e : t = k
          · rw [e]; exact HF.out
          · exact g t (by omega), fun g t ht => g t (by omega)⟩⟩
        case measure => simp [intOf]; omega
      | false =>
        rw [hfk] at ck
        have HF : Hid _ := hfk
        clear hfk
        go_wp2
        go_round
        case rel => exact ⟨k + 1, false, by go_num, by omega, rfl, ⟨fun g => (by cases g), fun g => (by have := g k (by omega); rw [HF.out] at this; cases this)⟩⟩
        case measure => simp [intOf]; omega
    · obtain rfl : n = k := by omega
      have cl := HCF.out (n - 1) (by omega)
      have c0 := HCF.out 0 (by omega)
      rw [HL.out] at cl
      have hbf : b = f 0 := by
        rw [Bool.eq_iff_iff]
        exact HB.out.trans HFI.out.symm
      subst hbf
      cases hf0 : f 0 with
      | true =>
        rw [hf0] at c0
        clear hf0
        go_wp2
        go_ret
        exact ⟨rfl, hbel⟩
      | false =>
        rw [hf0] at c0
        obtain ⟨jj, hj1, hj2, hj3⟩ := HMI.out hf0
        clear hf0
        have HJ : Hid _ := hj3
        clear hj3
        go_wp2
        go_loop [7] (fun vj => ∃ j : Nat, vj = .int .i64 j ∧ 1 ≤ j ∧ j ≤ jj) (fun vj => jj - (intOf vj).toNat)
        case atStart => exact ⟨1, rfl, by omega, by omega⟩
        case round =>
          obtain ⟨j, rfl, hja, hjb⟩ := hrel
          have cj := HCF.out j (by omega)
          by_cases hjj : j = jj
          · rw [hjj, HJ.out, ← hjj] at cj
            clear cl c0
            have HJJ : Hid _ := hjj
            clear hjj
            go_wp2
            go_ret
            exact ⟨rfl, hbel⟩
          · clear cl c0
            go_wp2
            · go_ret
              exact ⟨rfl, hbel⟩
            · go_round
              case rel => exact ⟨j + 1, by go_num, by omega, by omega⟩
              case measure => simp [intOf]; omega
end Go.Proofs.Qxb6602921a
