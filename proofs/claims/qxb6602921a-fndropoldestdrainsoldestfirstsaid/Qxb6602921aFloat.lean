/-
  PLAIN: the order of float64 words as the model has it ('Ieee.double.order') told by an integer key. No program in this text.
-/
import Ieee.Arith
namespace Go.Proofs.Qxb6602921a.Fl

/-- The key of a datum: a NaN first; then minus infinity, the numbers by their value, infinity. The two zeros have one key. -/
def dk : Ieee.Datum → Int × Int
  | .number s m e => (0, Ieee.signed s m (e - Ieee.double.leastPlace).toNat)
  | .infinity s => (if s then -1 else 1, 0)
  | .nan _ _ => (-2, 0)

def key (x : Nat) : Int × Int := dk (Ieee.double.read x)
def isN (x : Nat) : Bool := (Ieee.double.read x).isNaN
/-- 'x < y', 'x > y', 'x == y', 'x >= y' as the walk shows them. -/
def lt (x y : Nat) : Bool := Ieee.double.order x y == some .lt
def gt (x y : Nat) : Bool := Ieee.double.order x y == some .gt
def eq (x y : Nat) : Bool := Ieee.double.order x y == some .eq

/-- The keys' strict order. -/
def klt (p q : Int × Int) : Prop := p.1 < q.1 ∨ (p.1 = q.1 ∧ p.2 < q.2)

theorem place_ok (x : Nat) (s : Bool) (m : Nat) (e : Int) (h : Ieee.double.read x = .number s m e) : Ieee.double.leastPlace ≤ e := by
  unfold Ieee.Format.read at h
  dsimp only at h
  split at h
  · injection h with _ _ h; omega
  · split at h
    · injection h with _ _ h; omega
    · split at h <;> cases h

theorem signed_scale (s : Bool) (m a b : Nat) : Ieee.signed s m (a + b) = Ieee.signed s m a * 2 ^ b := by
  unfold Ieee.signed
  cases s
  · simp [Nat.shiftLeft_eq, Nat.pow_add, Int.mul_assoc]
  · simp [Nat.shiftLeft_eq, Nat.pow_add, Int.mul_assoc, Int.neg_mul]

theorem compare_scale (a b : Int) (c : Nat) : compare (a * 2 ^ c) (b * 2 ^ c) = compare a b := by
  have hp : (0 : Int) < 2 ^ c := Int.pow_pos (by decide)
  show compareOfLessAndEq _ _ = compareOfLessAndEq _ _
  unfold compareOfLessAndEq
  have h1 : (a * 2 ^ c < b * 2 ^ c) = (a < b) := propext (Int.mul_lt_mul_right hp)
  have h2 : (a * 2 ^ c = b * 2 ^ c) = (a = b) := propext ⟨fun h => Int.eq_of_mul_eq_mul_right (Int.ne_of_gt hp) h, fun h => by rw [h]⟩
  simp only [h1, h2]

theorem compare_eq (a b : Int) : compare a b = if a < b then .lt else if a = b then .eq else .gt := rfl

theorem number_order (L i j : Int) (s t : Bool) (m n : Nat) (hi : L ≤ i) (hj : L ≤ j) :
    compare (Ieee.signed s m (i - min i j).toNat) (Ieee.signed t n (j - min i j).toNat) = compare (Ieee.signed s m (i - L).toNat) (Ieee.signed t n (j - L).toNat) := by
  have e1 : (i - L).toNat = (i - min i j).toNat + (min i j - L).toNat := by omega
  have e2 : (j - L).toNat = (j - min i j).toNat + (min i j - L).toNat := by omega
  rw [e1, e2, signed_scale, signed_scale, compare_scale]

theorem order_none (x y : Nat) (h : isN x = true ∨ isN y = true) : Ieee.double.order x y = none := by
  unfold Ieee.Format.order
  unfold isN at h
  cases hx : Ieee.double.read x <;> cases hy : Ieee.double.read y <;> simp_all [Ieee.Datum.isNaN, Ieee.Datum.order]

theorem order_some (x y : Nat) (hx : isN x = false) (hy : isN y = false) : ∃ o, Ieee.double.order x y = some o ∧ (o = .lt ↔ klt (key x) (key y)) ∧ (o = .gt ↔ klt (key y) (key x)) ∧ (o = .eq ↔ key x = key y) := by
  have px := place_ok x
  have py := place_ok y
  unfold isN at hx hy
  unfold key
  unfold Ieee.Format.order
  cases h1 : Ieee.double.read x with
  | nan => rw [h1] at hx; simp [Ieee.Datum.isNaN] at hx
  | infinity s =>
    cases h2 : Ieee.double.read y with
    | nan => rw [h2] at hy; simp [Ieee.Datum.isNaN] at hy
    | infinity t => refine ⟨_, rfl, ?_⟩; cases s <;> cases t <;> simp [dk, klt] <;> decide
    | number t n j => refine ⟨_, rfl, ?_⟩; cases s <;> simp [dk, klt]
  | number s m i =>
    cases h2 : Ieee.double.read y with
    | nan => rw [h2] at hy; simp [Ieee.Datum.isNaN] at hy
    | infinity t => refine ⟨_, rfl, ?_⟩; cases t <;> simp [dk, klt]
    | number t n j =>
      refine ⟨_, rfl, ?_⟩
      rw [number_order Ieee.double.leastPlace i j s t m n (px s m i h1) (py t n j h2)]
      simp only [dk, klt]
      generalize Ieee.signed s m (i - Ieee.double.leastPlace).toNat = a
      generalize Ieee.signed t n (j - Ieee.double.leastPlace).toNat = b
      rw [compare_eq]
      by_cases c1 : a < b
      · rw [if_pos c1]; simp; omega
      · rw [if_neg c1]
        by_cases c2 : a = b
        · rw [if_pos c2]; simp; omega
        · rw [if_neg c2]; simp; omega

theorem key_nan (x : Nat) (h : isN x = true) : key x = (-2, 0) := by
  unfold isN at h
  unfold key
  cases hx : Ieee.double.read x <;> rw [hx] at h <;> simp [Ieee.Datum.isNaN] at h
  rfl
theorem key_num (x : Nat) (h : isN x = false) : -2 < (key x).1 := by
  unfold isN at h
  unfold key
  cases hx : Ieee.double.read x with
  | nan => rw [hx] at h; simp [Ieee.Datum.isNaN] at h
  | infinity s => cases s <;> simp [dk]
  | number => simp [dk]

theorem lt_iff (x y : Nat) : lt x y = true ↔ isN x = false ∧ isN y = false ∧ klt (key x) (key y) := by
  unfold lt
  by_cases h : isN x = true ∨ isN y = true
  · rw [order_none x y h]; rcases h with h | h <;> simp [h]
  · simp only [not_or, Bool.not_eq_true] at h
    obtain ⟨o, ho, h1, _, _⟩ := order_some x y h.1 h.2
    rw [ho]; simp [h.1, h.2, ← h1]
theorem gt_iff (x y : Nat) : gt x y = true ↔ isN x = false ∧ isN y = false ∧ klt (key y) (key x) := by
  unfold gt
  by_cases h : isN x = true ∨ isN y = true
  · rw [order_none x y h]; rcases h with h | h <;> simp [h]
  · simp only [not_or, Bool.not_eq_true] at h
    obtain ⟨o, ho, _, h1, _⟩ := order_some x y h.1 h.2
    rw [ho]; simp [h.1, h.2, ← h1]
theorem eq_iff (x y : Nat) : eq x y = true ↔ isN x = false ∧ isN y = false ∧ key x = key y := by
  unfold eq
  by_cases h : isN x = true ∨ isN y = true
  · rw [order_none x y h]; rcases h with h | h <;> simp [h]
  · simp only [not_or, Bool.not_eq_true] at h
    obtain ⟨o, ho, _, _, h1⟩ := order_some x y h.1 h.2
    rw [ho]; simp [h.1, h.2, ← h1]
theorem gt_eq (x y : Nat) : gt x y = lt y x := by
  rw [Bool.eq_iff_iff, gt_iff, lt_iff]
  constructor <;> rintro ⟨a, b, c⟩ <;> exact ⟨b, a, c⟩
theorem lt_irrefl (x : Nat) : lt x x = false := by
  cases h : lt x x with
  | false => rfl
  | true => have := (lt_iff x x).1 h; unfold klt at this; omega
theorem lt_asymm (x y : Nat) (h : lt x y = true) : lt y x = false := by
  cases h2 : lt y x with
  | false => rfl
  | true => have a := (lt_iff x y).1 h; have b := (lt_iff y x).1 h2; unfold klt at a b; omega
end Go.Proofs.Qxb6602921a.Fl
