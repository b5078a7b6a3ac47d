/-
  The division of two float64 words as the model runs it: its bits, a NaN of whatever bits where the operation has no answer.
-/
import Derived.Test.Qxb6602921aBase
namespace Go.Proofs.Qxb6602921a
open Go.RowKit Go.Sort

/-- What the division may give: the rounded quotient, or a NaN where there is none. -/
def Quo (x y r : Nat) : Prop := Ieee.double.div x y = some r ∨ (Ieee.double.div x y = none ∧ Fl.isN r = true)
/-- How many draws the division makes. -/
def quoD (x y : Nat) : Nat := if Ieee.double.div x y = none then 1 else 0
/-- The bits that it gives in the world w. -/
def quoV (x y : Nat) (w : World) : Nat := match Ieee.double.div x y with
  | some r => r
  | none => (Question.nanBits .f64 x y).cut (w.tape w.drawn (.nanBits .f64 x y))

theorem nan_bits (x y t : Nat) : Fl.isN ((Question.nanBits .f64 x y).cut t) = true := by
  have e : (Question.nanBits .f64 x y).cut t = (t % 2) * 2 ^ 63 + 0x7ff0000000000000 + 1 + (t / 2) % (2 ^ 52 - 1) := rfl
  rw [e]
  have h1 : t % 2 < 2 := Nat.mod_lt _ (by decide)
  have h2 : (t / 2) % (2 ^ 52 - 1) < 2 ^ 52 - 1 := Nat.mod_lt _ (by decide)
  generalize t % 2 = a at *
  generalize (t / 2) % (2 ^ 52 - 1) = b at *
  have hsw : Ieee.double.signWeight = 9223372036854775808 := by decide
  have hbi : Ieee.double.binade = 4503599627370496 := by decide
  have hin : Ieee.double.infRung = 9218868437227405312 := by decide
  have hr : (a * 2 ^ 63 + 0x7ff0000000000000 + 1 + b) % 9223372036854775808 = 9218868437227405313 + b := by omega
  unfold Fl.isN Ieee.Format.read
  simp only [hsw, hbi, hin, hr]
  rw [if_neg (by omega), if_neg (by omega), if_neg (by omega)]
  rfl

theorem quo_quoV (x y : Nat) (w : World) : Quo x y (quoV x y w) := by
  unfold Quo quoV
  cases h : Ieee.double.div x y with
  | some r => exact .inl rfl
  | none => exact .inr ⟨rfl, nan_bits _ _ _⟩

theorem run_quo {P : Program} (t : TypeId) (x y : Nat) (w : World) : (binOp .quo t (.float .f64 x) (.float .f64 y)).run P w = .ok (.float .f64 (quoV x y w)) (w.drewN (quoD x y)) := by
  unfold quoV quoD
  have hf : FloatKind.f64.format = Ieee.double := rfl
  cases h : Ieee.double.div x y with
  | some r => simp [binOp, Op.floatArith, hf, h, World.drewN]
  | none => simp [binOp, Op.floatArith, hf, h, Question.forced]; rfl

/-- '>=' as the walk shows it. -/
def Fl.ge (x y : Nat) : Bool := Ieee.double.order x y == some .gt || Ieee.double.order x y == some .eq
theorem quo_ge {x y r s m : Nat} (h1 : Quo x y r) (h2 : Quo x y s) : Fl.ge r m = Fl.ge s m := by
  rcases h1 with h1 | ⟨h1, n1⟩ <;> rcases h2 with h2 | ⟨h2, n2⟩
  · rw [h1] at h2; injection h2 with h2; rw [h2]
  · rw [h1] at h2; cases h2
  · rw [h1] at h2; cases h2
  · unfold Fl.ge; rw [Fl.order_none r m (.inl n1), Fl.order_none s m (.inl n2)]
theorem quo_isN {x y r s : Nat} (h1 : Quo x y r) (h2 : Quo x y s) (hn : Fl.isN r = false) : r = s := by
  rcases h1 with h1 | ⟨h1, n1⟩ <;> rcases h2 with h2 | ⟨h2, n2⟩
  · rw [h1] at h2; injection h2
  · rw [h1] at h2; cases h2
  · rw [h1] at h2; cases h2
  · rw [n1] at hn; cases hn

/-- Below B nothing turns where a row from B on is laid. -/
theorem bel_putRow {α : Type} [Inhabited α] {B : Nat} {a w : World} (h : Below B a w) (enc : α → Value) {blk : Nat} (off : Nat) (d : Array α) (hp : B ≤ blk) : Below B a (Go.Sort.putRow enc w blk off d) := by
  refine h.trans ⟨rfl, rfl, rfl, by simp, fun k hk => ?_⟩
  simp only [Go.Sort.putRow, mapBlock, Array.getElem?_modify]
  rw [if_neg (by omega)]
theorem bel_drewN {B : Nat} {a w : World} (h : Below B a w) (n : Nat) : Below B a (w.drewN n) := ⟨h.os, h.tape, h.output, h.size, h.block⟩
end Go.Proofs.Qxb6602921a
