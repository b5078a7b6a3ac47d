/-
  The walks of fHasNaN, ZZNth, fSameMultiset and of the law FnNthSelectsRankK.
-/
import Derived.Test.Qxb6602921aSort
import Derived.Test.Qxb6602921aSelPlain
namespace Go.Proofs.Qxb6602921a
open Go.RowKit Go.Sort

theorem bytes10_yes (a : Option Addr) (n cap : Nat) (k : Int) (w : World) (hn : n ≤ 1048576) : Calls Try.prog 10 #[.slice a n cap, .int .i64 k] w fun e w' => e = .returned (.bool true) ∧ w = w' := by
  go_enter Try.func10, Try.ntmps10
  go_wp2
  go_ret
  exact ⟨rfl, rfl⟩
theorem bytes10_no (a : Option Addr) (n cap : Nat) (k : Int) (w : World) (hn : 1048576 < n) : Calls Try.prog 10 #[.slice a n cap, .int .i64 k] w fun e w' => e = .returned (.bool false) ∧ w = w' := by
  go_enter Try.func10, Try.ntmps10
  go_wp2
  go_ret
  exact ⟨rfl, rfl⟩

/-- Is there a NaN among the first n values? -/
def anyN (d : Array Nat) (n : Nat) : Bool := (List.range n).any fun t => Fl.isN d[t]!
theorem anyN_false {d : Array Nat} {n : Nat} : anyN d n = false ↔ ∀ t, t < n → Fl.isN d[t]! = false := by
  unfold anyN
  simp [List.any_eq_false]
theorem anyN_true {d : Array Nat} {n k : Nat} (hk : k < n) (h : Fl.isN d[k]! = true) : anyN d n = true := by
  unfold anyN
  rw [List.any_eq_true]
  exact ⟨k, by simpa using hk, h⟩
/-- fHasNaN: is there a NaN among the n values? -/
theorem hasNaN_any (blk off n cap : Nat) (d : Array Nat) (w : World) (hn : n ≤ 1048576) (hc : ∀ t, t < n → w.cell? ⟨blk, off + t, none⟩ = some (.float .f64 d[t]!)) :
    Calls Try.prog 15 #[.slice (some ⟨blk, off, none⟩) n cap] w fun e w' => e = .returned (.bool (anyN d n)) ∧ w = w' := by
  go_enter Try.func15, Try.ntmps15
  go_wp2
  go_loop [3] (fun v => ∃ k : Nat, v = .int .i64 k ∧ k ≤ n ∧ ∀ t, t < k → Fl.isN d[t]! = false) (fun v => n - (intOf v).toNat)
  case atStart => exact ⟨0, rfl, Nat.zero_le _, fun t h => by omega⟩
  case round =>
    obtain ⟨k, rfl, hk, hf⟩ := hrel
    have HF : Hid _ := hf
    clear hf
    by_cases hlt : k < n
    · obtain ⟨x, hx⟩ : ∃ x, d[k]! = x := ⟨_, rfl⟩
      have c1 := hc k hlt
      rw [hx] at c1
      have HX : Hid (d[k]! = x) := hx
      have cb := isNaN_any x
      cases hb : Fl.isN x with
      | true =>
        rw [hb] at cb
        have CB : Hid _ := cb
        have HB : Hid _ := hb
        clear cb hb hx hc
        go_wp2_with fail
        refine (CB.out _).mono ?_
        rintro e w' ⟨rfl, rfl⟩
        go_wp2
        go_ret
        rw [anyN_true (d := d) hlt (by rw [HX.out]; exact HB.out)]
        exact ⟨rfl, rfl⟩
      | false =>
        rw [hb] at cb
        have CB : Hid _ := cb
        have HB : Hid _ := hb
        clear cb hb hx hc
        go_wp2_with fail
        refine (CB.out _).mono ?_
        rintro e w' ⟨rfl, rfl⟩
        go_wp2
        go_round
        case rel => exact ⟨k + 1, by go_num, by omega, fun t ht => by
          by_cases e : t = k
          · rw [e, HX.out]; exact HB.out
          · exact HF.out t (by omega)⟩
        case measure => simp [intOf]; omega
    · go_wp2
      go_ret
      rw [anyN_false.2 (fun t ht => HF.out t (by omega))]
      exact ⟨rfl, rfl⟩

theorem zznth_any (blk off cap n k : Nat) (d : Array Nat) (w : World) (hH : Holds enc w blk off d) (hd : d.size = n) (hk : k < n) (hn : n ≤ 1048576) :
    Calls Try.prog 12 #[.slice (some ⟨blk, off, none⟩) n cap, .int .i64 k] w fun e w' => ∃ dk q, e = .returned (.float .f64 dk[k]!) ∧ w' = (putRow enc w blk off dk).drewN q ∧ Post d n k dk := by
  have HH : Hid _ := hH
  have HD : Hid _ := hd
  clear hH hd
  go_enter Try.func12, Try.ntmps12
  go_wp2_with fail
  refine (nth_any blk off cap n k d w HH.out HD.out hk hn).mono ?_
  rintro e w' ⟨dk, q, rfl, hw, hp⟩
  have HW : Hid _ := hw
  clear hw
  go_wp2
  go_ret
  exact ⟨dk, q, rfl, HW.out, hp⟩

set_option maxRecDepth 100000 in
set_option maxHeartbeats 1000000 in
/-- fSameMultiset of two rows that are permutations of one another. -/
theorem sameMulti_any (b1 o1 c1 b2 o2 c2 n : Nat) (d1 d2 : Array Nat) (w : World) (hn : n ≤ 1048576) (hd1 : d1.size = n) (hd2 : d2.size = n) (hb1 : b1 < w.heap.size) (hb2 : b2 < w.heap.size)
    (hc1 : ∀ j, j < n → w.cell? ⟨b1, o1 + j, none⟩ = some (.float .f64 d1[j]!)) (hc2 : ∀ j, j < n → w.cell? ⟨b2, o2 + j, none⟩ = some (.float .f64 d2[j]!)) (hp : d1.toList.Perm d2.toList) :
    Calls Try.prog 13 #[.slice (some ⟨b1, o1, none⟩) n c1, .slice (some ⟨b2, o2, none⟩) n c2] w fun e w' => e = .returned (.bool true) ∧ Below w.heap.size w w' := by
  have HD1 : Hid _ := hd1
  have HD2 : Hid _ := hd2
  have HC1 : Hid _ := hc1
  have HC2 : Hid _ := hc2
  clear hd1 hd2 hc1 hc2
  go_enter Try.func13, Try.ntmps13
  go_wp2_with fail
  refine (sorted_any b1 o1 n c1 d1 w hn HD1.out (.inr hb1) HC1.out).mono ?_
  rintro e w1 ⟨A1, s1, rfl, hA1, hs1, hp1, hso1, hH1, hbel1⟩
  have HS1 : Hid _ := hs1
  have HH1 : Hid _ := hH1
  clear hs1 hH1
  go_wp2_with fail
  refine (sorted_any b2 o2 n c2 d2 w1 hn HD2.out (.inr (Nat.lt_of_lt_of_le hb2 hbel1.size)) (fun j hj => (hbel1.cell hb2).trans (HC2.out j hj))).mono ?_
  rintro e w2 ⟨A2, s2, rfl, hA2, hs2, hp2, hso2, hH2, hbel2⟩
  have hsame : Hid (∀ i, i < n → Fl.same s1[i]! s2[i]! = true) := fun i hi => sorted_same HS1.out hs2 hso1 hso2 (hp1.trans (hp.trans hp2.symm)) i hi
  have HS2 : Hid _ := hs2
  have hc1' : Hid (∀ i, i < n → w2.cell? ⟨A1, i, none⟩ = some (.float .f64 s1[i]!)) := fun i hi => by
    have g := (HH1.out i (by rw [HS1.out]; exact hi)).1
    rw [Nat.zero_add] at g
    have hlt := World.block_lt_of_cell? _ _ g
    rw [hbel2.cell hlt]
    exact g
  have hc2' : Hid (∀ i, i < n → w2.cell? ⟨A2, i, none⟩ = some (.float .f64 s2[i]!)) := fun i hi => by
    have g := (hH2 i (by rw [HS2.out]; exact hi)).1
    rw [Nat.zero_add] at g
    exact g
  have hbel : Below w.heap.size w w2 := hbel1.trans (hbel2.mono hbel1.size)
  clear hs2 hH2 HH1 hbel1 hbel2
  go_wp2
  go_loopw [7] (fun v wr => ∃ k q : Nat, v = .int .i64 k ∧ k ≤ n ∧ wr = w2.drewN q) (fun v _ => n - (intOf v).toNat)
  case atStart => exact ⟨0, 0, rfl, Nat.zero_le _, rfl⟩
  case round =>
    obtain ⟨k, q, rfl, hk, hwr⟩ := hrel
    have HWR : Hid (wr = w2.drewN q) := hwr
    by_cases hlt : k < n
    · obtain ⟨x, hx⟩ : ∃ x, s1[k]! = x := ⟨_, rfl⟩
      obtain ⟨y, hy⟩ : ∃ y, s2[k]! = y := ⟨_, rfl⟩
      have g1 : wr.cell? ⟨A1, k, none⟩ = some (.float .f64 s1[k]!) := by rw [hwr]; exact hc1'.out k hlt
      have g2 : wr.cell? ⟨A2, k, none⟩ = some (.float .f64 s2[k]!) := by rw [hwr]; exact hc2'.out k hlt
      have g3 := hsame.out k hlt
      rw [hx] at g1 g3
      rw [hy] at g2 g3
      have cb := sameClass_any x y
      rw [g3] at cb
      have CB : Hid _ := cb
      clear cb g3 hx hy hwr
      go_wp2_with fail
      go_quiet ((go_at_call 14; exact Calls.quiet_of_same (calls_flip (CB.out _))))
      go_wp2
      go_roundw
      case rel => exact ⟨k + 1, q + nq, by go_num, by omega, by rw [HWR.out]; simp⟩
      case measure => simp [intOf]; omega
    · clear hwr
      go_wp2
      go_ret
      exact ⟨rfl, by rw [HWR.out]; exact bel_drewN hbel q⟩

theorem sel_out (a : Option Addr) (n cap : Nat) (k : Int) (w : World) (h : 131072 < n ∨ k < 0 ∨ (n : Int) ≤ k) :
    Calls Try.prog 3 #[.slice a n cap, .int .i64 k] w fun e w' => e = .returned (.bool true) ∧ Below w.heap.size w w' := by
  by_cases hb : n ≤ 1048576
  · by_cases hb2 : n ≤ 131072
    · have hd1 : decide ((131072 : Int) < (n : Int)) = false := decide_eq_false (by omega)
      by_cases hk : k < 0
      · have hd2 : decide (k < 0) = true := decide_eq_true hk
        go_enter Try.func3, Try.ntmps3
        go_wp2_with (go_at_call 10; refine (bytes10_yes a n cap k _ hb).mono ?_; rintro e w' ⟨rfl, rfl⟩)
        go_ret
        exact ⟨rfl, Below.refl _ _⟩
      · have hd2 : decide (k < 0) = false := decide_eq_false hk
        have hd3 : decide ((n : Int) ≤ k) = true := decide_eq_true (by omega)
        go_enter Try.func3, Try.ntmps3
        go_wp2_with (go_at_call 10; refine (bytes10_yes a n cap k _ hb).mono ?_; rintro e w' ⟨rfl, rfl⟩)
        go_ret
        exact ⟨rfl, Below.refl _ _⟩
    · go_enter Try.func3, Try.ntmps3
      go_wp2_with (go_at_call 10; refine (bytes10_yes a n cap k _ hb).mono ?_; rintro e w' ⟨rfl, rfl⟩)
      go_ret
      exact ⟨rfl, Below.refl _ _⟩
  · go_enter Try.func3, Try.ntmps3
    go_wp2_with (go_at_call 10; refine (bytes10_no a n cap k _ (by omega)).mono ?_; rintro e w' ⟨rfl, rfl⟩)
    go_ret
    exact ⟨rfl, Below.refl _ _⟩

/-- The cells of a copy. -/
theorem holds_copy (w : World) (d : Array Nat) (n : Nat) (hd : d.size = n) : Holds enc (w.alloc (.cells (cl d n n) 25)) w.heap.size 0 d := by
  intro t ht
  have ht' : t < n := by rw [← hd]; exact ht
  rw [Nat.zero_add, World.cell?_alloc_at _ _ _ _ rfl, World.frozen?_alloc_at _ _ _ _ rfl, cl_get _ _ _ _ ht', if_pos ht']
  exact ⟨rfl, rfl⟩
theorem holds_alloc {α : Type} [Inhabited α] {enc : α → Value} {w : World} {b off : Nat} {d : Array α} (o : Obj) (hb : b < w.heap.size) (h : Holds enc w b off d) : Holds enc (w.alloc o) b off d := by
  intro t ht
  rw [World.cell?_alloc_past _ _ _ hb, World.frozen?_alloc_past _ _ _ hb]
  exact h t ht
theorem same_self (x : Nat) : Fl.same x x = true := (Fl.same_iff x x).2 rfl

set_option maxRecDepth 100000 in
set_option maxHeartbeats 2000000 in
theorem sel_in (a : Option Addr) (n cap k : Nat) (d : Array Nat) (w : World) (hn : n ≤ 131072) (hk : k < n) (h : IsFRow w a n cap d) :
    Calls Try.prog 3 #[.slice a n cap, .int .i64 k] w fun e w' => e = .returned (.bool true) ∧ Below w.heap.size w w' := by
  have hd1 : decide ((131072 : Int) < (n : Int)) = false := decide_eq_false (by omega)
  have hd2 : decide ((k : Int) < 0) = false := decide_eq_false (by omega)
  have hd3 : decide (n ≤ k) = false := decide_eq_false (by omega)
  have HD : Hid (d.size = n) := h.1
  go_enter Try.func3, Try.ntmps3
  go_wp2_with (go_at_call 10; refine (bytes10_yes a n cap k _ (by omega)).mono ?_; rintro e w' ⟨rfl, rfl⟩)
  refine (clone_row a n cap d w (by omega) h).mono ?_
  rintro e w1 (⟨_, h0, _, _⟩ | ⟨_, rfl, rfl⟩)
  · omega
  clear h
  have hH1 := holds_copy w d n HD.out
  have hbel1 : Below w.heap.size w (w.alloc (.cells (cl d n n) 25)) := (Below.refl _ _).alloc (Nat.le_refl _) _
  have hsz1 : (w.alloc (.cells (cl d n n) 25)).heap.size = w.heap.size + 1 := by simp
  generalize w.alloc (.cells (cl d n n) 25) = w1 at hH1 hbel1 hsz1 ⊢
  have HH1 : Hid _ := hH1
  have HSZ1 : Hid _ := hsz1
  clear hH1 hsz1
  go_wp2_with fail
  refine (clone_some w.heap.size 0 n n d w1 (by omega) (.inr (by rw [HSZ1.out]; omega)) (fun j hj => (HH1.out j (by rw [HD.out]; exact hj)).1)).mono ?_
  rintro e w2 ⟨rfl, hw2⟩
  rw [HSZ1.out]
  have hO2 : Hid (Holds enc w2 (w.heap.size + 1) 0 d) := by
    have := holds_copy w1 d n HD.out
    rw [← hw2, HSZ1.out] at this
    exact this
  have hV2 : Hid (Holds enc w2 w.heap.size 0 d) := by
    show Holds _ _ _ _ _
    rw [hw2]
    exact holds_alloc _ (by rw [HSZ1.out]; omega) HH1.out
  have hbel2 : Below w.heap.size w w2 := by rw [hw2]; exact hbel1.alloc (by rw [HSZ1.out]; omega) _
  have hsz2 : Hid (w2.heap.size = w.heap.size + 2) := by
    show _ = _
    rw [hw2]
    simp [HSZ1.out]
  clear hw2 HH1 HSZ1 hbel1
  go_wp2_with fail
  refine (zznth_any w.heap.size 0 n n k d w2 hV2.out HD.out hk (by omega)).mono ?_
  rintro e w3 ⟨dk, q, rfl, hw3, hpost⟩
  have hV3 : Hid (Holds enc w3 w.heap.size 0 dk) := by
    show Holds _ _ _ _ _
    rw [hw3]
    exact holds_putRow enc w2 w.heap.size 0 d dk hV2.out (by rw [hpost.size, HD.out])
  have hO3 : Hid (Holds enc w3 (w.heap.size + 1) 0 d) := by
    show Holds _ _ _ _ _
    rw [hw3]
    intro t ht
    rw [World.cell?_drewN, World.frozen?_drewN, frozen?_putRow, cell?_putRow_other _ _ _ _ _ _ (.inl (by simp))]
    exact hO2.out t ht
  have hbel3 : Below w.heap.size w w3 := by rw [hw3]; exact bel_drewN (bel_putRow hbel2 enc 0 dk (Nat.le_refl _)) q
  have hsz3 : Hid (w3.heap.size = w.heap.size + 2) := by
    show _ = _
    rw [hw3]
    simp [hsz2.out]
  clear hw3 hbel2 hsz2 hV2 hO2
  go_wp2_with fail
  refine (sameMulti_any (w.heap.size + 1) 0 n w.heap.size 0 n n d dk w3 (by omega) HD.out hpost.size (by rw [hsz3.out]; omega) (by rw [hsz3.out]; omega) (fun j hj => (hO3.out j (by rw [HD.out]; exact hj)).1) (fun j hj => (hV3.out j (by rw [hpost.size]; exact hj)).1) hpost.perm.symm).mono ?_
  rintro e w4 ⟨rfl, hbel34⟩
  have hV4 : Hid (∀ t, t < n → w4.cell? ⟨w.heap.size, t, none⟩ = some (.float .f64 dk[t]!)) := fun t ht => by
    have g := (hV3.out t (by rw [hpost.size]; exact ht)).1
    rw [Nat.zero_add] at g
    rw [hbel34.cell (show w.heap.size < _ by rw [hsz3.out]; omega)]
    exact g
  have hO4 : Hid (∀ t, t < n → w4.cell? ⟨w.heap.size + 1, t, none⟩ = some (.float .f64 d[t]!)) := fun t ht => by
    have g := (hO3.out t (by rw [HD.out]; exact ht)).1
    rw [Nat.zero_add] at g
    rw [hbel34.cell (show w.heap.size + 1 < _ by rw [hsz3.out]; omega)]
    exact g
  have hbel4 : Below w.heap.size w w4 := hbel3.trans (hbel34.mono (by rw [hsz3.out]; omega))
  clear hbel3 hbel34 hsz3 hV3 hO3
  obtain ⟨g, hg⟩ : ∃ g, dk[k]! = g := ⟨_, rfl⟩
  have cv := hV4.out k hk
  rw [hg] at cv ⊢
  have HG : Hid (dk[k]! = g) := hg
  clear hg
  have cs := sameClass_any g g
  rw [same_self] at cs
  have CS : Hid _ := cs
  clear cs
  go_wp2_with fail
  refine (CS.out _).mono ?_
  rintro e w' ⟨rfl, rfl⟩
  go_wp2_with fail
  refine (hasNaN_any (w.heap.size + 1) 0 n n d w4 (by omega) (fun t ht => by rw [Nat.zero_add]; exact hO4.out t ht)).mono ?_
  rintro e w' ⟨rfl, rfl⟩
  cases hN : anyN d n with
  | true =>
    clear hN
    go_wp2
    go_ret
    exact ⟨rfl, hbel4⟩
  | false =>
    have hNN : Hid (NN d) := fun t ht => anyN_false.1 hN t (by rw [← HD.out]; exact ht)
    clear hN cv
    go_wp2
    go_loop [7, 8, 9] (fun v7 v8 v9 => ∃ i : Nat, v9 = .int .i64 i ∧ i ≤ n ∧ v7 = .int .i64 (cntL d g i) ∧ v8 = .int .i64 (cntM d g i)) (fun _ _ v9 => n - (intOf v9).toNat)
    case atStart => exact ⟨0, rfl, Nat.zero_le _, by simp [cntL], by simp [cntM]⟩
    case round =>
      obtain ⟨i, rfl, hi, rfl, rfl⟩ := hrel
      have bL := cntL_le d g i
      have bM := cntM_le d g i
      by_cases hlt : i < n
      · obtain ⟨x, hx⟩ : ∃ x, d[i]! = x := ⟨_, rfl⟩
        have cx := hO4.out i hlt
        have sL := cntL_step d g i (by rw [HD.out]; exact hlt)
        have sM := cntM_step d g i (by rw [HD.out]; exact hlt)
        rw [hx] at cx sL sM
        have SL : Hid _ := sL
        have SM : Hid _ := sM
        clear sL sM hx
        generalize hcL : cntL d g i = cL at bL ⊢
        generalize hcM : cntM d g i = cM at bM ⊢
        rw [hcL] at SL
        rw [hcM] at SM
        clear hcL hcM
        cases h1 : Fl.lt x g with
        | true =>
          have h1' : (FloatKind.f64.format.order x g == some Ordering.lt) = true := h1
          have h2' : Fl.le x g = true := by show (Fl.lt x g || Fl.eq x g) = true; rw [h1]; rfl
          rw [h1] at SL
          rw [h2'] at SM
          clear h1 h2'
          go_wp2
          go_round
          case rel => exact ⟨i + 1, by go_num, by omega, by rw [SL.out]; go_num, by rw [SM.out]; go_num⟩
          case measure => simp [intOf]; omega
        | false =>
          have h1' : (FloatKind.f64.format.order x g == some Ordering.lt) = false := h1
          cases h2 : Fl.eq x g with
          | true =>
            have h2' : (FloatKind.f64.format.order x g == some Ordering.eq) = true := h2
            have h3' : Fl.le x g = true := by show (Fl.lt x g || Fl.eq x g) = true; rw [h1, h2]; rfl
            rw [h1] at SL
            rw [h3'] at SM
            clear h1 h2 h3'
            go_wp2
            go_round
            case rel => exact ⟨i + 1, by go_num, by omega, by rw [SL.out]; go_num, by rw [SM.out]; go_num⟩
            case measure => simp [intOf]; omega
          | false =>
            have h2' : (FloatKind.f64.format.order x g == some Ordering.eq) = false := h2
            have h3' : Fl.le x g = false := by show (Fl.lt x g || Fl.eq x g) = false; rw [h1, h2]; rfl
            rw [h1] at SL
            rw [h3'] at SM
            clear h1 h2 h3'
            go_wp2
            go_round
            case rel => exact ⟨i + 1, by go_num, by omega, by rw [SL.out]; go_num, by rw [SM.out]; go_num⟩
            case measure => simp [intOf]; omega
      · obtain rfl : n = i := by omega
        have r1 := rank_less HD.out hpost hNN.out
        have r2 := rank_most HD.out hk hpost hNN.out
        rw [HG.out] at r1 r2
        generalize cntL d g n = cL at r1 bL ⊢
        generalize cntM d g n = cM at r2 bM ⊢
        have t1 : decide ((k : Int) < (cL : Int)) = false := decide_eq_false (by omega)
        have t2 : decide ((cM : Int) ≤ (k : Int)) = false := decide_eq_false (by omega)
        have t1' : decide (k < cL) = false := decide_eq_false (by omega)
        have t2' : decide (cM ≤ k) = false := decide_eq_false (by omega)
        have hNk := NN_perm hpost.perm hNN.out
        have hsk := hpost.size
        have hlow : Hid (∀ t, t < k → Fl.le dk[t]! g = true) := fun t ht => by
          rw [← HG.out]
          exact le_total (hNk t (by omega)) (hNk k (by omega)) (hpost.low hNN.out t ht)
        have hhigh : Hid (∀ t, k < t → t < n → Fl.le g dk[t]! = true) := fun t h1 h2 => by
          rw [← HG.out]
          exact le_total (hNk k (by omega)) (hNk t (by omega)) (hpost.high hNN.out t h1 h2)
        clear hNk hsk
        go_wp2
        go_loop [10] (fun v => ∃ i : Nat, v = .int .i64 i ∧ i ≤ k) (fun v => k - (intOf v).toNat)
        case atStart => exact ⟨0, rfl, Nat.zero_le _⟩
        case round =>
          obtain ⟨i, rfl, hi⟩ := hrel
          by_cases hlt : i < k
          · obtain ⟨x, hx⟩ : ∃ x, dk[i]! = x := ⟨_, rfl⟩
            have cx := hV4.out i (by omega)
            have hle := hlow.out i hlt
            rw [hx] at cx hle
            have hle' : (FloatKind.f64.format.order x g == some Ordering.lt || FloatKind.f64.format.order x g == some Ordering.eq) = true := hle
            clear hle hx
            go_wp2
            go_round
            case rel => exact ⟨i + 1, by go_num, by omega⟩
            case measure => simp [intOf]; omega
          · go_wp2
            go_loop [11] (fun v => ∃ i : Nat, v = .int .i64 i ∧ k < i ∧ i ≤ n) (fun v => n - (intOf v).toNat)
            case atStart => exact ⟨k + 1, by go_num, by omega, by omega⟩
            case round =>
              obtain ⟨j, rfl, hj1, hj2⟩ := hrel
              by_cases hjn : j < n
              · obtain ⟨x, hx⟩ : ∃ x, dk[j]! = x := ⟨_, rfl⟩
                have cx := hV4.out j hjn
                have hle := hhigh.out j hj1 hjn
                rw [hx] at cx hle
                have hle' : (FloatKind.f64.format.order x g == some Ordering.gt || FloatKind.f64.format.order x g == some Ordering.eq) = true := (le_ge g x).trans hle
                clear hle hx
                go_wp2
                go_round
                case rel => exact ⟨j + 1, by go_num, by omega, by omega⟩
                case measure => simp [intOf]; omega
              · go_wp2
                go_ret
                exact ⟨rfl, hbel4⟩
end Go.Proofs.Qxb6602921a
