/-
  An Entry that came in, opened; the two closed facts of the frame.
-/
import Derived.Test.Qxb6604496aSmall
import Derived.ProofKit
import Derived.OpenShut
import Derived.ShutString
import Derived.ChangeOld
import Derived.SliceStrings
import Derived.Lib.SmallJoins
namespace Go.Proofs.Qxb6604496a
open Go.ChangeShapes Go.WideShapes Go.ChangeAt Go.RowKit

theorem own : ownKnob Try.prog.godebug = none := by kernel_rfl
theorem laidOut : laidOutB Try.prog = true := by kernel_rfl

theorem Try.cells25 : Try.prog.cellsOf 25 = 9 := by kernel_rfl
theorem Try.cells3 : Try.prog.cellsOf 3 = 1 := by kernel_rfl
theorem Try.cells9 : Try.prog.cellsOf 9 = 1 := by kernel_rfl
theorem Try.cells4 : Try.prog.cellsOf 4 = 1 := by kernel_rfl
theorem Try.cells22 : Try.prog.cellsOf 22 = 1 := by kernel_rfl
theorem Try.cells23 : Try.prog.cellsOf 23 = 1 := by kernel_rfl

theorem array9 {α : Type} {cs : Array α} (h : cs.size = 9) : ∃ c0 c1 c2 c3 c4 c5 c6 c7 c8, cs = #[c0, c1, c2, c3, c4, c5, c6, c7, c8] := by
  obtain ⟨l⟩ := cs
  match l, h with
  | [c0, c1, c2, c3, c4, c5, c6, c7, c8], _ => exact ⟨c0, c1, c2, c3, c4, c5, c6, c7, c8, rfl⟩

section
variable {H : Type} {enc : TypeId × Value → H} {w : World} {base : Nat} {spare : Nat → Bool} {held : Bool}

theorem open_entry {r0 : Reach} {b0 : Nat} {v : Value} {d : DataW H} {p : List MemPlace} (hv : Value.okWide Try.prog w r0 b0 25 v) (h : DataW.Trod enc Try.prog w base spare held 25 v d p) :
    ∃ (c : Int) (nm wr : ByteArray) (ng : Bool) (r : Int) (a : Option Addr) (n cap : Nat) (src ln : Int) (tx : ByteArray) (S : Nat → ByteArray),
      v = .agg #[.int .i64 c, .string nm, .string wr, .bool ng, .int .u16 r, .slice a n cap, .int .i64 src, .int .i64 ln, .string tx] ∧ IsS w a n S ∧ (a = none → n = 0 ∧ cap = 0) := by
  obtain ⟨cs, rfl, hsz⟩ := okWide_struct Try.underlying25 hv
  obtain ⟨c0, c1, c2, c3, c4, c5, c6, c7, c8, rfl⟩ := array9 (hsz.trans Try.cells25)
  obtain ⟨fuel, hf⟩ := h
  obtain ⟨xs, n, _, hx, hl, hlen, hfs⟩ := DataW.trod_struct Try.underlying25 hf
  obtain ⟨y0, y1, y2, y3, y4, y5, y6, y7, y8, rfl⟩ : ∃ y0 y1 y2 y3 y4 y5 y6 y7 y8, xs = [y0, y1, y2, y3, y4, y5, y6, y7, y8] := by
    match xs, hlen with
    | [y0, y1, y2, y3, y4, y5, y6, y7, y8], _ => exact ⟨y0, y1, y2, y3, y4, y5, y6, y7, y8, rfl⟩
  have e0 : DataW.trod enc Try.prog w base spare held n 3 [c0] = some y0 := by simpa [Value.cells, Try.cells3] using hfs 0 _ rfl
  have e1 : DataW.trod enc Try.prog w base spare held n 9 [c1] = some y1 := by simpa [Value.cells, Try.cells9] using hfs 1 _ rfl
  have e2 : DataW.trod enc Try.prog w base spare held n 9 [c2] = some y2 := by simpa [Value.cells, Try.cells9] using hfs 2 _ rfl
  have e3 : DataW.trod enc Try.prog w base spare held n 4 [c3] = some y3 := by simpa [Value.cells, Try.cells4] using hfs 3 _ rfl
  have e4 : DataW.trod enc Try.prog w base spare held n 22 [c4] = some y4 := by simpa [Value.cells, Try.cells22] using hfs 4 _ rfl
  have e5 : DataW.trod enc Try.prog w base spare held n 23 [c5] = some y5 := by simpa [Value.cells, Try.cells23] using hfs 5 _ rfl
  have e6 : DataW.trod enc Try.prog w base spare held n 3 [c6] = some y6 := by simpa [Value.cells, Try.cells3] using hfs 6 _ rfl
  have e7 : DataW.trod enc Try.prog w base spare held n 3 [c7] = some y7 := by simpa [Value.cells, Try.cells3] using hfs 7 _ rfl
  have e8 : DataW.trod enc Try.prog w base spare held n 9 [c8] = some y8 := by simpa [Value.cells, Try.cells9] using hfs 8 _ rfl
  obtain ⟨v0, h0, _, _⟩ := DataW.trod_int Try.underlying3 e0
  obtain ⟨v1, h1, _, _⟩ := DataW.trod_string Try.underlying9 e1
  obtain ⟨v2, h2, _, _⟩ := DataW.trod_string Try.underlying9 e2
  obtain ⟨v3, h3, _⟩ := DataW.trod_bool Try.underlying4 e3
  obtain ⟨v4, h4, _, _⟩ := DataW.trod_int Try.underlying22 e4
  obtain ⟨v6, h6, _, _⟩ := DataW.trod_int Try.underlying3 e6
  obtain ⟨v7, h7, _, _⟩ := DataW.trod_int Try.underlying3 e7
  obtain ⟨v8, h8, _, _⟩ := DataW.trod_string Try.underlying9 e8
  simp only [List.cons.injEq, and_true] at h0 h1 h2 h3 h4 h6 h7 h8
  subst h0 h1 h2 h3 h4 h6 h7 h8
  rcases open_strings Try.underlying23 Try.underlying9 Try.cells9 e5 with ⟨h5, _⟩ | ⟨a, len, cap, ss, h5, _, hle, _, hz, _, hcell, _⟩
  · simp only [List.cons.injEq, and_true] at h5
    subst h5
    exact ⟨v0, v1, v2, v3, v4, none, 0, 0, v6, v7, v8, fun _ => ByteArray.empty, rfl, .inl rfl, fun _ => ⟨rfl, rfl⟩⟩
  · simp only [List.cons.injEq, and_true] at h5
    subst h5
    have hlen' : len ≤ ss.length := by
      rw [hz]
      split <;> omega
    refine ⟨v0, v1, v2, v3, v4, some a, len, cap, v6, v7, v8, fun i => ss.getD i ByteArray.empty, rfl, ?_, fun h => by cases h⟩
    rcases Nat.eq_zero_or_pos len with h0 | h0
    · exact .inl h0
    · right
      obtain ⟨b, off, spot⟩ := a
      have c0 := hcell 0 (by omega)
      have hspot : spot = none := by simpa [Addr.add] using World.cell?_spot c0
      subst hspot
      exact ⟨b, off, rfl, World.block_lt_of_cell? _ _ c0, fun j hj => by rw [← WideShapes.add_plain]; exact hcell j (by omega)⟩
end
end Go.Proofs.Qxb6604496a
