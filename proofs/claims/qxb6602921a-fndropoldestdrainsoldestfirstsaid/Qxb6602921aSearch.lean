/-
  The walks of the two isNaN, of cmp.Less and of slices.BinarySearch at []float64 (functions 43, 42, 41, 38).
-/
import Derived.Test.Qxb6602921aSmall
import Derived.Test.Qxb6602921aDropPlain
namespace Go.Proofs.Qxb6602921a
open Go.RowKit Go.Sort

theorem cmpIsNaN_any (x : Nat) (w : World) : Calls Try.prog 43 #[.float .f64 x] w fun e w' => e = .returned (.bool (Fl.isN x)) ∧ w = w' := by
  have h := isN_walk x
  go_enter Try.func43, Try.ntmps43
  go_wp2
  go_ret
  exact ⟨rfl, rfl⟩
theorem slIsNaN_any (x : Nat) (w : World) : Calls Try.prog 42 #[.float .f64 x] w fun e w' => e = .returned (.bool (Fl.isN x)) ∧ w = w' := by
  have h := isN_walk x
  go_enter Try.func42, Try.ntmps42
  go_wp2
  go_ret
  exact ⟨rfl, rfl⟩

theorem less_any (x y : Nat) (w : World) : Calls Try.prog 41 #[.float .f64 x, .float .f64 y] w fun e w' => e = .returned (.bool (Fl.cml x y)) ∧ w = w' := by
  obtain ⟨nx, hnx⟩ : ∃ v, Fl.isN x = v := ⟨_, rfl⟩
  obtain ⟨ny, hny⟩ : ∃ v, Fl.isN y = v := ⟨_, rfl⟩
  have c1 := cmpIsNaN_any x
  have c2 := cmpIsNaN_any y
  rw [hnx] at c1
  rw [hny] at c2
  have C1 : Hid _ := c1
  have C2 : Hid _ := c2
  have hn : Hid (Fl.cml x y = (nx && !ny || Fl.lt x y)) := by
    show Fl.cml x y = _
    unfold Fl.cml
    rw [hnx, hny]
  clear c1 c2 hnx hny
  cases nx with
  | true =>
    cases ny <;>
    · go_enter Try.func41, Try.ntmps41
      go_wp2_with fail
      refine (C1.out _).mono ?_
      rintro e w' ⟨rfl, rfl⟩
      go_wp2_with fail
      refine (C2.out _).mono ?_
      rintro e w' ⟨rfl, rfl⟩
      go_wp2
      go_ret
      rw [hn.out]
      exact ⟨rfl, rfl⟩
  | false =>
    go_enter Try.func41, Try.ntmps41
    go_wp2_with fail
    refine (C1.out _).mono ?_
    rintro e w' ⟨rfl, rfl⟩
    go_wp2
    go_ret
    rw [hn.out]
    exact ⟨by cases ny <;> rfl, rfl⟩

set_option maxRecDepth 100000 in
set_option maxHeartbeats 2000000 in
theorem search_any (b off n c x : Nat) (s : Array Nat) (w : World) (hn : n ≤ 1048576) (hc : ∀ j, j < n → w.cell? ⟨b, off + j, none⟩ = some (.float .f64 s[j]!)) (hs : ∀ i j, i < j → j < n → k2le (Fl.key s[i]!) (Fl.key s[j]!)) :
    Calls Try.prog 38 #[.slice (some ⟨b, off, none⟩) n c, .float .f64 x] w fun e w' => ∃ (i : Nat) (v : Value), e = .returned (.tuple #[.int .i64 i, v]) ∧ Srch s x n i ∧ w = w' := by
  have HC : Hid _ := hc
  have HS : Hid _ := hs
  clear hc hs
  go_enter Try.func38, Try.ntmps38
  go_wp2
  go_loopg [7, 8] n (fun g s7 s8 wr => ∃ lo hi : Nat, s7 = .int .i64 lo ∧ s8 = .int .i64 hi ∧ lo ≤ hi ∧ hi ≤ n ∧ hi - lo ≤ g ∧ w = wr ∧ (∀ t, t < lo → Fl.cml s[t]! x = true) ∧ (∀ t, hi ≤ t → t < n → Fl.cml s[t]! x = false))
  case atStart => exact ⟨0, n, rfl, rfl, Nat.zero_le _, Nat.le_refl _, by omega, rfl, fun t ht => absurd ht (Nat.not_lt_zero _), fun t h1 h2 => by omega⟩
  case round =>
    obtain ⟨lo, hi, rfl, rfl, hlh, hin, hg, rfl, h1, h2⟩ := hrel
    have H1 : Hid _ := h1
    have H2 : Hid _ := h2
    clear h1 h2
    by_cases hlt : lo < hi
    · obtain ⟨y, hy⟩ : ∃ y, s[(lo + hi) / 2]! = y := ⟨_, rfl⟩
      have cm := HC.out ((lo + hi) / 2) (by omega)
      rw [hy] at cm
      have Y : Hid (s[(lo + hi) / 2]! = y) := hy
      clear hy
      have cb := less_any y x
      cases hb : Fl.cml y x with
      | true =>
        rw [hb] at cb
        have CB : Hid _ := cb
        have HB : Hid _ := hb
        clear cb hb
        go_wp2_with (go_at_call 41; refine (CB.out _).mono ?_; rintro e w' ⟨rfl, rfl⟩)
        go_roundg (hi - ((lo + hi) / 2 + 1))
        case measure => omega
        case rel =>
          refine ⟨(lo + hi) / 2 + 1, hi, by rw [show ((lo : Int) + (hi : Int)) / 2 + 1 = (((lo + hi) / 2 + 1 : Nat) : Int) by omega], rfl, by omega, hin, Nat.le_refl _, rfl, fun t ht => ?_, H2.out⟩
          rcases Nat.lt_or_ge t ((lo + hi) / 2) with g | g
          · exact cml_low (HS.out t ((lo + hi) / 2) g (by omega)) (by rw [Y.out]; exact HB.out)
          · rw [show t = (lo + hi) / 2 by omega, Y.out]; exact HB.out
      | false =>
        rw [hb] at cb
        have CB : Hid _ := cb
        have HB : Hid _ := hb
        clear cb hb
        go_wp2_with (go_at_call 41; refine (CB.out _).mono ?_; rintro e w' ⟨rfl, rfl⟩)
        go_roundg ((lo + hi) / 2 - lo)
        case measure => omega
        case rel =>
          refine ⟨lo, (lo + hi) / 2, rfl, by rw [show ((lo : Int) + (hi : Int)) / 2 = (((lo + hi) / 2 : Nat) : Int) by omega], by omega, by omega, Nat.le_refl _, rfl, H1.out, fun t ht htn => ?_⟩
          rcases Nat.lt_or_ge ((lo + hi) / 2) t with g | g
          · exact cml_high (HS.out ((lo + hi) / 2) t g htn) (by rw [Y.out]; exact HB.out)
          · rw [show t = (lo + hi) / 2 by omega, Y.out]; exact HB.out
    · have : hi = lo := by omega
      subst this
      have hsr : Hid (Srch s x n hi) := ⟨hin, H1.out, H2.out⟩
      by_cases hn : hi < n
      · obtain ⟨y, hy⟩ : ∃ y, s[hi]! = y := ⟨_, rfl⟩
        have cm := HC.out hi hn
        rw [hy] at cm
        clear hy
        cases he : Fl.eq y x with
        | true =>
          have h1' : (FloatKind.f64.format.order y x == some Ordering.eq) = true := he
          clear he
          go_wp2
          go_ret2
          exact ⟨hi, _, rfl, hsr.out, rfl⟩
        | false =>
          have h1' : (FloatKind.f64.format.order y x == some Ordering.eq) = false := he
          clear he
          have cy := slIsNaN_any y
          have cx := slIsNaN_any x
          have CX : Hid _ := cx
          cases hb : Fl.isN y <;>
          · rw [hb] at cy
            have CY : Hid _ := cy
            clear cy cx hb
            go_wp2_with (go_at_call 42; first | (refine (CY.out _).mono ?_; rintro e w' ⟨rfl, rfl⟩) | (refine (CX.out _).mono ?_; rintro e w' ⟨rfl, rfl⟩))
            go_ret2
            exact ⟨hi, _, rfl, hsr.out, rfl⟩
      · go_wp2
        go_ret2
        exact ⟨hi, _, rfl, hsr.out, rfl⟩
end Go.Proofs.Qxb6602921a
