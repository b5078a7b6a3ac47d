/-
  PLAIN: the strict order that fBefore tells, by a key; what each way of a round of the merge does to the two rows. No program in this text.
-/
import Derived.Test.Qxb6602921aNthPlain
namespace Go.Proofs.Qxb6602921a
open Go.Sort

/-- 1 / x, where it has an answer. -/
def Fl.inv (x : Nat) : Nat := (Ieee.double.div 4607182418800017408 x).getD 0
/-- fNegZero. -/
def Fl.nz (x : Nat) : Bool := Fl.eq x 0 && Fl.lt (Fl.inv x) 0
theorem Fl.inv_zero (x : Nat) (h : Fl.eq x 0 = true) : Ieee.double.div 4607182418800017408 x = some (Fl.inv x) := by
  have h1 : Ieee.double.read 4607182418800017408 = .number false 4503599627370496 (-52) := by decide +kernel
  have h0 : Fl.key 0 = (0, 0) := by decide +kernel
  obtain ⟨a, _, c⟩ := (Fl.eq_iff x 0).1 h
  rw [h0] at c
  unfold Fl.inv Ieee.Format.div
  rw [h1]
  unfold Fl.key at c
  unfold Fl.isN at a
  cases hx : Ieee.double.read x with
  | nan => rw [hx] at a; simp [Ieee.Datum.isNaN] at a
  | infinity s => rw [hx] at c; cases s <;> simp [Fl.dk] at c
  | number s m e =>
    rw [hx] at c
    simp only [Fl.dk, Prod.mk.injEq, true_and] at c
    have hm : m = 0 := by
      unfold Ieee.signed at c
      have hp : 0 < 2 ^ (e - Ieee.double.leastPlace).toNat := Nat.two_pow_pos _
      rw [Nat.shiftLeft_eq] at c
      have : m * 2 ^ (e - Ieee.double.leastPlace).toNat = 0 := by cases s <;> simp only [if_true, Bool.false_eq_true, if_false] at c <;> omega
      rcases Nat.mul_eq_zero.1 this with h | h
      · exact h
      · omega
    subst hm
    simp [Ieee.Datum.quotient]

/-- fBefore. -/
def Fl.bef (a b : Nat) : Bool := if Fl.isN a || Fl.isN b then Fl.isN a && !Fl.isN b else if Fl.lt a b then true else if Fl.gt a b then false else Fl.nz a && !Fl.nz b
/-- fSameClass. -/
def Fl.same (a b : Nat) : Bool := if Fl.isN a || Fl.isN b then Fl.isN a && Fl.isN b else Fl.eq a b && (Fl.nz a == Fl.nz b)
/-- fCmpEqual. -/
def Fl.ceq (a b : Nat) : Bool := if Fl.isN a || Fl.isN b then Fl.isN a && Fl.isN b else Fl.eq a b

/-- The finer key: the negative zero ahead of the positive. -/
def Fl.kk (x : Nat) : Int × Int × Int := ((Fl.key x).1, (Fl.key x).2, if Fl.nz x then 0 else 1)
def Fl.k3 (p q : Int × Int × Int) : Prop := p.1 < q.1 ∨ (p.1 = q.1 ∧ (p.2.1 < q.2.1 ∨ (p.2.1 = q.2.1 ∧ p.2.2 < q.2.2)))

theorem Fl.nz_nan (x : Nat) (h : Fl.isN x = true) : Fl.nz x = false := by
  unfold Fl.nz
  have : Fl.eq x 0 = false := by
    cases e : Fl.eq x 0 with
    | false => rfl
    | true => have := ((Fl.eq_iff x 0).1 e).1; rw [h] at this; cases this
  rw [this]; rfl

theorem pair_eq (p q : Int × Int) : p = q ↔ p.1 = q.1 ∧ p.2 = q.2 := by
  cases p; cases q; simp

theorem Fl.bef_iff (a b : Nat) : Fl.bef a b = true ↔ Fl.k3 (Fl.kk a) (Fl.kk b) := by
  unfold Fl.bef Fl.k3 Fl.kk
  dsimp only
  cases ha : Fl.isN a <;> cases hb : Fl.isN b
  · have la := Fl.lt_iff a b
    have ga := Fl.gt_iff a b
    rw [ha, hb] at la ga
    simp only [true_and] at la ga
    unfold Fl.klt at la ga
    cases h1 : Fl.lt a b
    · rw [h1] at la
      cases h2 : Fl.gt a b
      · rw [h2] at ga
        simp only [Bool.false_eq_true, false_iff] at la ga
        have e1 : (Fl.key a).1 = (Fl.key b).1 := by omega
        have e2 : (Fl.key a).2 = (Fl.key b).2 := by omega
        cases Fl.nz a <;> cases Fl.nz b <;> simp [e1, e2]
      · rw [h2] at ga
        simp only [Bool.false_eq_true, false_iff, true_iff] at la ga
        simp
        omega
    · rw [h1] at la
      simp only [true_iff] at la
      simp
      omega
  · have := Fl.key_nan b hb
    have := Fl.key_num a ha
    simp
    rw [‹Fl.key b = _›]
    dsimp only
    omega
  · have := Fl.key_nan a ha
    have := Fl.key_num b hb
    simp
    rw [‹Fl.key a = _›]
    dsimp only
    omega
  · rw [Fl.key_nan a ha, Fl.key_nan b hb, Fl.nz_nan a ha, Fl.nz_nan b hb]
    simp

theorem Fl.same_iff (a b : Nat) : Fl.same a b = true ↔ Fl.kk a = Fl.kk b := by
  unfold Fl.same Fl.kk
  rw [Prod.mk.injEq, Prod.mk.injEq]
  cases ha : Fl.isN a <;> cases hb : Fl.isN b
  · have ea := Fl.eq_iff a b
    rw [ha, hb, pair_eq] at ea
    simp only [true_and] at ea
    cases h : Fl.eq a b
    · rw [h] at ea
      simp only [Bool.false_eq_true, false_iff] at ea
      simp
      intro h1 h2
      exact absurd ⟨h1, h2⟩ ea
    · rw [h] at ea
      simp only [true_iff] at ea
      cases Fl.nz a <;> cases Fl.nz b <;> simp [ea]
  · have h1 := Fl.key_nan b hb
    have := Fl.key_num a ha
    simp [h1]
    intro h; omega
  · have h1 := Fl.key_nan a ha
    have := Fl.key_num b hb
    simp [h1]
    intro h; omega
  · rw [Fl.key_nan a ha, Fl.key_nan b hb, Fl.nz_nan a ha, Fl.nz_nan b hb]
    simp

theorem Fl.ceq_iff (a b : Nat) : Fl.ceq a b = true ↔ Fl.key a = Fl.key b := by
  unfold Fl.ceq
  cases ha : Fl.isN a <;> cases hb : Fl.isN b
  · have ea := Fl.eq_iff a b
    rw [ha, hb] at ea
    simpa using ea
  · have h1 := Fl.key_nan b hb
    have := Fl.key_num a ha
    simp [h1, pair_eq]
    intro h; omega
  · have h1 := Fl.key_nan a ha
    have := Fl.key_num b hb
    simp [h1, pair_eq]
    intro h; omega
  · rw [Fl.key_nan a ha, Fl.key_nan b hb]
    simp

theorem Fl.bef_trans {x y z : Nat} (h1 : Fl.bef y x = false) (h2 : Fl.bef z y = false) : Fl.bef z x = false := by
  cases h : Fl.bef z x with
  | false => rfl
  | true =>
    have g1 : ¬ Fl.k3 (Fl.kk y) (Fl.kk x) := fun g => by rw [(Fl.bef_iff y x).2 g] at h1; cases h1
    have g2 : ¬ Fl.k3 (Fl.kk z) (Fl.kk y) := fun g => by rw [(Fl.bef_iff z y).2 g] at h2; cases h2
    have g3 := (Fl.bef_iff z x).1 h
    unfold Fl.k3 at g1 g2 g3
    omega
theorem Fl.bef_asymm {x y : Nat} (h : Fl.bef x y = true) : Fl.bef y x = false := by
  cases h2 : Fl.bef y x with
  | false => rfl
  | true =>
    have g1 := (Fl.bef_iff x y).1 h
    have g2 := (Fl.bef_iff y x).1 h2
    unfold Fl.k3 at g1 g2
    omega
end Go.Proofs.Qxb6602921a
