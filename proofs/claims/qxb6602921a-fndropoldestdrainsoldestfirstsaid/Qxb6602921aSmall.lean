/-
  The walks of fIsNaN, fNegZero, fBefore, fSameClass, fCmpEqual: each answers its plain twin and leaves the world alone.
-/
import Derived.Test.Qxb6602921aQuo
import Derived.Test.Qxb6602921aMergePlain
namespace Go.Proofs.Qxb6602921a
open Go.RowKit Go.Sort

theorem isN_walk (x : Nat) : (FloatKind.f64.format.order x x != some Ordering.eq) = Fl.isN x := by
  cases h : Fl.isN x with
  | true => rw [show FloatKind.f64.format.order x x = none from Fl.order_none x x (.inl h)]; rfl
  | false =>
    have e : Fl.eq x x = true := (Fl.eq_iff x x).2 ⟨h, h, rfl⟩
    unfold Fl.eq at e
    have e2 : Ieee.double.order x x = some .eq := by simpa using e
    rw [show FloatKind.f64.format.order x x = some .eq from e2]; rfl

theorem isNaN_any (x : Nat) (w : World) : Calls Try.prog 19 #[.float .f64 x] w fun e w' => e = .returned (.bool (Fl.isN x)) ∧ w = w' := by
  have h := isN_walk x
  go_enter Try.func19, Try.ntmps19
  go_wp2
  go_ret
  exact ⟨rfl, rfl⟩

theorem negZero_any (x : Nat) (w : World) : Calls Try.prog 32 #[.float .f64 x] w fun e w' => e = .returned (.bool (Fl.nz x)) ∧ w = w' := by
  cases h : Fl.eq x 0 with
  | true =>
    have hz := Fl.inv_zero x h
    have hq := fun w : World => run_float_arith (P := Try.prog) w .quo 25 .f64 4607182418800017408 x (Fl.inv x) hz
    have h1 : (FloatKind.f64.format.order x 0 == some Ordering.eq) = true := h
    obtain ⟨r, hr⟩ : ∃ r, Fl.inv x = r := ⟨_, rfl⟩
    rw [hr] at hq
    have hn : Hid (Fl.nz x = (FloatKind.f64.format.order r 0 == some Ordering.lt)) := by
      show Fl.nz x = _
      unfold Fl.nz
      rw [h, hr]
      rfl
    clear hz h hr
    go_enter Try.func32, Try.ntmps32
    go_wp2
    go_ret
    rw [hn.out]
    exact ⟨rfl, rfl⟩
  | false =>
    have h1 : (FloatKind.f64.format.order x 0 == some Ordering.eq) = false := h
    have hn : Hid (Fl.nz x = false) := by
      show Fl.nz x = _
      unfold Fl.nz
      rw [h]
      rfl
    clear h
    go_enter Try.func32, Try.ntmps32
    go_wp2
    go_ret
    rw [hn.out]
    exact ⟨rfl, rfl⟩

theorem before_any (a b : Nat) (w : World) : Calls Try.prog 34 #[.float .f64 a, .float .f64 b] w fun e w' => e = .returned (.bool (Fl.bef a b)) ∧ w = w' := by
  obtain ⟨na, hna⟩ : ∃ x, Fl.isN a = x := ⟨_, rfl⟩
  obtain ⟨nb, hnb⟩ : ∃ x, Fl.isN b = x := ⟨_, rfl⟩
  obtain ⟨za, hza⟩ : ∃ x, Fl.nz a = x := ⟨_, rfl⟩
  obtain ⟨zb, hzb⟩ : ∃ x, Fl.nz b = x := ⟨_, rfl⟩
  have c1 := isNaN_any a
  have c2 := isNaN_any b
  have c3 := negZero_any a
  have c4 := negZero_any b
  rw [hna] at c1; rw [hnb] at c2; rw [hza] at c3; rw [hzb] at c4
  have C1 : Hid _ := c1
  have C2 : Hid _ := c2
  have C3 : Hid _ := c3
  have C4 : Hid _ := c4
  have hn : Hid (Fl.bef a b = if na || nb then na && !nb else if Fl.lt a b then true else if Fl.gt a b then false else za && !zb) := by
    show Fl.bef a b = _
    unfold Fl.bef
    rw [hna, hnb, hza, hzb]
  clear c1 c2 c3 c4 hna hnb hza hzb
  cases na with
  | true =>
    cases nb <;>
    · go_enter Try.func34, Try.ntmps34
      go_wp2_with fail
      refine (C1.out _).mono ?_
      rintro e w' ⟨rfl, rfl⟩
      go_wp2_with fail
      refine (C2.out _).mono ?_
      rintro e w' ⟨rfl, rfl⟩
      go_wp2
      go_ret
      rw [hn.out]
      exact ⟨rfl, rfl⟩
  | false =>
    cases nb with
    | true =>
      go_enter Try.func34, Try.ntmps34
      go_wp2_with fail
      refine (C1.out _).mono ?_
      rintro e w' ⟨rfl, rfl⟩
      go_wp2_with fail
      refine (C2.out _).mono ?_
      rintro e w' ⟨rfl, rfl⟩
      go_wp2
      go_ret
      rw [hn.out]
      exact ⟨rfl, rfl⟩
    | false =>
      cases hl : Fl.lt a b with
      | true =>
        rw [hl] at hn
        have h1 : (FloatKind.f64.format.order a b == some Ordering.lt) = true := hl
        clear hl
        go_enter Try.func34, Try.ntmps34
        go_wp2_with fail
        refine (C1.out _).mono ?_
        rintro e w' ⟨rfl, rfl⟩
        go_wp2_with fail
        refine (C2.out _).mono ?_
        rintro e w' ⟨rfl, rfl⟩
        go_wp2
        go_ret
        rw [hn.out]
        exact ⟨rfl, rfl⟩
      | false =>
        rw [hl] at hn
        have h1 : (FloatKind.f64.format.order a b == some Ordering.lt) = false := hl
        clear hl
        cases hg : Fl.gt a b with
        | true =>
          rw [hg] at hn
          have h2 : (FloatKind.f64.format.order a b == some Ordering.gt) = true := hg
          clear hg
          go_enter Try.func34, Try.ntmps34
          go_wp2_with fail
          refine (C1.out _).mono ?_
          rintro e w' ⟨rfl, rfl⟩
          go_wp2_with fail
          refine (C2.out _).mono ?_
          rintro e w' ⟨rfl, rfl⟩
          go_wp2
          go_ret
          rw [hn.out]
          exact ⟨rfl, rfl⟩
        | false =>
          rw [hg] at hn
          have h2 : (FloatKind.f64.format.order a b == some Ordering.gt) = false := hg
          clear hg
          cases za with
          | false =>
            go_enter Try.func34, Try.ntmps34
            go_wp2_with fail
            refine (C1.out _).mono ?_
            rintro e w' ⟨rfl, rfl⟩
            go_wp2_with fail
            refine (C2.out _).mono ?_
            rintro e w' ⟨rfl, rfl⟩
            go_wp2_with fail
            refine (C3.out _).mono ?_
            rintro e w' ⟨rfl, rfl⟩
            go_wp2
            go_ret
            rw [hn.out]
            exact ⟨rfl, rfl⟩
          | true =>
            go_enter Try.func34, Try.ntmps34
            go_wp2_with fail
            refine (C1.out _).mono ?_
            rintro e w' ⟨rfl, rfl⟩
            go_wp2_with fail
            refine (C2.out _).mono ?_
            rintro e w' ⟨rfl, rfl⟩
            go_wp2_with fail
            refine (C3.out _).mono ?_
            rintro e w' ⟨rfl, rfl⟩
            go_wp2_with fail
            refine (C4.out _).mono ?_
            rintro e w' ⟨rfl, rfl⟩
            go_wp2
            go_ret
            rw [hn.out]
            exact ⟨rfl, rfl⟩

theorem sameClass_any (a b : Nat) (w : World) : Calls Try.prog 14 #[.float .f64 a, .float .f64 b] w fun e w' => e = .returned (.bool (Fl.same a b)) ∧ w = w' := by
  obtain ⟨na, hna⟩ : ∃ x, Fl.isN a = x := ⟨_, rfl⟩
  obtain ⟨nb, hnb⟩ : ∃ x, Fl.isN b = x := ⟨_, rfl⟩
  obtain ⟨za, hza⟩ : ∃ x, Fl.nz a = x := ⟨_, rfl⟩
  obtain ⟨zb, hzb⟩ : ∃ x, Fl.nz b = x := ⟨_, rfl⟩
  have c1 := isNaN_any a
  have c2 := isNaN_any b
  have c3 := negZero_any a
  have c4 := negZero_any b
  rw [hna] at c1; rw [hnb] at c2; rw [hza] at c3; rw [hzb] at c4
  have C1 : Hid _ := c1
  have C2 : Hid _ := c2
  have C3 : Hid _ := c3
  have C4 : Hid _ := c4
  have hn : Hid (Fl.same a b = if na || nb then na && nb else Fl.eq a b && (za == zb)) := by
    show Fl.same a b = _
    unfold Fl.same
    rw [hna, hnb, hza, hzb]
  clear c1 c2 c3 c4 hna hnb hza hzb
  cases na with
  | true =>
    cases nb <;>
    · go_enter Try.func14, Try.ntmps14
      go_wp2_with fail
      refine (C1.out _).mono ?_
      rintro e w' ⟨rfl, rfl⟩
      go_wp2_with fail
      refine (C1.out _).mono ?_
      rintro e w' ⟨rfl, rfl⟩
      go_wp2_with fail
      refine (C2.out _).mono ?_
      rintro e w' ⟨rfl, rfl⟩
      go_wp2
      go_ret
      rw [hn.out]
      exact ⟨rfl, rfl⟩
  | false =>
    cases nb with
    | true =>
      go_enter Try.func14, Try.ntmps14
      go_wp2_with fail
      refine (C1.out _).mono ?_
      rintro e w' ⟨rfl, rfl⟩
      go_wp2_with fail
      refine (C2.out _).mono ?_
      rintro e w' ⟨rfl, rfl⟩
      go_wp2_with fail
      refine (C1.out _).mono ?_
      rintro e w' ⟨rfl, rfl⟩
      go_wp2
      go_ret
      rw [hn.out]
      exact ⟨rfl, rfl⟩
    | false =>
      cases he : Fl.eq a b with
      | true =>
        rw [he] at hn
        have h1 : (FloatKind.f64.format.order a b == some Ordering.eq) = true := he
        clear he
        go_enter Try.func14, Try.ntmps14
        go_wp2_with fail
        refine (C1.out _).mono ?_
        rintro e w' ⟨rfl, rfl⟩
        go_wp2_with fail
        refine (C2.out _).mono ?_
        rintro e w' ⟨rfl, rfl⟩
        go_wp2_with fail
        refine (C3.out _).mono ?_
        rintro e w' ⟨rfl, rfl⟩
        go_wp2_with fail
        refine (C4.out _).mono ?_
        rintro e w' ⟨rfl, rfl⟩
        go_wp2
        go_ret
        rw [hn.out]
        exact ⟨rfl, rfl⟩
      | false =>
        rw [he] at hn
        have h1 : (FloatKind.f64.format.order a b == some Ordering.eq) = false := he
        clear he
        go_enter Try.func14, Try.ntmps14
        go_wp2_with fail
        refine (C1.out _).mono ?_
        rintro e w' ⟨rfl, rfl⟩
        go_wp2_with fail
        refine (C2.out _).mono ?_
        rintro e w' ⟨rfl, rfl⟩
        go_wp2
        go_ret
        rw [hn.out]
        exact ⟨rfl, rfl⟩

theorem cmpEqual_any (a b : Nat) (w : World) : Calls Try.prog 35 #[.float .f64 a, .float .f64 b] w fun e w' => e = .returned (.bool (Fl.ceq a b)) ∧ w = w' := by
  obtain ⟨na, hna⟩ : ∃ x, Fl.isN a = x := ⟨_, rfl⟩
  obtain ⟨nb, hnb⟩ : ∃ x, Fl.isN b = x := ⟨_, rfl⟩
  have c1 := isNaN_any a
  have c2 := isNaN_any b
  rw [hna] at c1; rw [hnb] at c2
  have C1 : Hid _ := c1
  have C2 : Hid _ := c2
  have hn : Hid (Fl.ceq a b = if na || nb then na && nb else Fl.eq a b) := by
    show Fl.ceq a b = _
    unfold Fl.ceq
    rw [hna, hnb]
  clear c1 c2 hna hnb
  cases na with
  | true =>
    cases nb <;>
    · go_enter Try.func35, Try.ntmps35
      go_wp2_with fail
      refine (C1.out _).mono ?_
      rintro e w' ⟨rfl, rfl⟩
      go_wp2_with fail
      refine (C1.out _).mono ?_
      rintro e w' ⟨rfl, rfl⟩
      go_wp2_with fail
      refine (C2.out _).mono ?_
      rintro e w' ⟨rfl, rfl⟩
      go_wp2
      go_ret
      rw [hn.out]
      exact ⟨rfl, rfl⟩
  | false =>
    cases nb with
    | true =>
      go_enter Try.func35, Try.ntmps35
      go_wp2_with fail
      refine (C1.out _).mono ?_
      rintro e w' ⟨rfl, rfl⟩
      go_wp2_with fail
      refine (C2.out _).mono ?_
      rintro e w' ⟨rfl, rfl⟩
      go_wp2_with fail
      refine (C1.out _).mono ?_
      rintro e w' ⟨rfl, rfl⟩
      go_wp2
      go_ret
      rw [hn.out]
      exact ⟨rfl, rfl⟩
    | false =>
      go_enter Try.func35, Try.ntmps35
      go_wp2_with fail
      refine (C1.out _).mono ?_
      rintro e w' ⟨rfl, rfl⟩
      go_wp2_with fail
      refine (C2.out _).mono ?_
      rintro e w' ⟨rfl, rfl⟩
      go_wp2
      go_ret
      rw [hn.out]
      exact ⟨rfl, rfl⟩
end Go.Proofs.Qxb6602921a
