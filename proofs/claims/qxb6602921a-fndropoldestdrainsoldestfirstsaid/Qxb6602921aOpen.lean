/-
  A slice of float64 that came in, opened; the two closed facts of the frame.
-/
import Derived.Test.Qxb6602921aBase
import Derived.ProofKit
import Derived.OpenShut
import Derived.ShutString
import Derived.ChangeOld
namespace Go.Proofs.Qxb6602921a
open Go.ChangeShapes Go.WideShapes Go.ChangeAt Go.RowKit

theorem own : ownKnob Try.prog.godebug = none := by kernel_rfl
theorem laidOut : laidOutB Try.prog = true := by kernel_rfl

section
variable {H : Type} {enc : TypeId × Value → H} {P : Program} {w : World} {base : Nat} {spare : Nat → Bool} {held : Bool}

theorem trod_float {t : TypeId} {k : FloatKind} {fuel : Nat} {cs : List Value} {x : DataW H × List MemPlace} (ht : P.underlying t = some (.float k)) (h : DataW.trod enc P w base spare held fuel t cs = some x) : ∃ n, cs = [.float k n] ∧ x = (.lit (.float k n), []) := by
  cases fuel with
  | zero => simp [DataW.trod] at h
  | succ n =>
    unfold DataW.trod at h
    rw [ht] at h
    split at h <;> simp_all

theorem open_floats {t e : TypeId} {fuel : Nat} {a : Option Addr} {len cap : Nat} {x : DataW H × List MemPlace} (ht : P.underlying t = some (.slice e)) (he : P.underlying e = some (.float .f64)) (hc : P.cellsOf e = 1)
    (h : DataW.trod enc P w base spare held fuel t [.slice a len cap] = some x) : ∃ d, IsFRow w a len cap d := by
  rcases DataW.trod_slice ht h with ⟨h0, _⟩ | ⟨a', len', cap', elems, rest, n, _, h1, rfl, hb, hl, hm, hlen, hel, hsp, hns⟩
  · simp at h0
    exact ⟨#[], by simp [h0], .inl ⟨h0.1, h0.2.1, h0.2.2⟩⟩
  · simp at h1
    obtain ⟨rfl, rfl, rfl⟩ := h1
    have each : ∀ i, ∃ m, i < len → w.cell? (a'.add i) = some (.float .f64 m) := by
      intro i
      by_cases hi : i < len
      · have g := hel i hi
        rw [List.getElem?_eq_getElem (by omega), hc, Nat.mul_one, Option.bind_eq_some_iff] at g
        obtain ⟨cs', hcs, hy'⟩ := g
        obtain ⟨m, rfl, _⟩ := trod_float he hy'
        exact ⟨m, fun _ => cell_of_cells?_one hcs⟩
      · exact ⟨0, fun h => absurd h hi⟩
    obtain ⟨f, hf⟩ := Classical.axiomOfChoice each
    refine ⟨(Array.range len).map f, by simp, .inr ⟨a', rfl, fun i hi => ?_⟩⟩
    rw [hf i hi, getElem!_pos _ i (by simpa using hi)]
    simp
end
end Go.Proofs.Qxb6602921a
