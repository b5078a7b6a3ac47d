/-
  No cell of these rows narrows 'for every input' (looked for: loops, veiled, ifaces, maps, wideKeys, modest, calm, conditions, laid).
  DERIVED. THE GIVEN ROWS OF THIS SEAT. 2 by the template 'for every input the law returns true; each argument reads behind the call as it read before'; 0 by the template 'total and deterministic' (their statements: Qxb6603576aTotals.lean).
  GIVEN WITH THE SEED: the statements are not yours to turn. If you find one false, say at which input.
  Laid BY PROGRAM, IN A SANDBOX (cutbox-rows.mjs): the forced cells as the released guide's own fill.sh prints them over the translation de81a5ae87060d5d… (all of the seat's roots in one cut). By AI agents, Wed Nov 11 2026. No macro, syntax, notation, axiom, sorry.
-/
import Derived.Test.Qxb6603576aChecked
import GoSem.Claim
import GoSem.ClaimJoined
import GoSem.ClaimMapViews
import Derived.JoinedTies
import Derived.KernelRfl
namespace Go.Proofs.Qxb6603576a
/- THE CELL 'sum', in the pinned program and in every row, IS THE sha256 OF THE DUMP (.gsa) THAT Qxb6603576aProg.lean LOADS. Nothing in Lean hashes anything: it is a label: what it is worth is what the hold of that sum in a sandbox is worth. -/
noncomputable def Try.pinned : Pinned := { name := "qxb6603576a", sum := "de81a5ae87060d5d7743dff10cf3bd3037673294f13f7b49da5886eb4a871a42", checked := Try.checked }
namespace Rows
def none {H : Type} : Left H := { results := [], args := [] }

/-- 'zzlaws_root_b1.FnCursorBytesSplitsUnread': WHATEVER THE INPUT: true; the input reads as it did. -/
def fnCursorBytesSplitsUnreadSpec : ChangeSpec := { name := "fnCursorBytesSplitsUnread", fn := fun _ => fun
  | [d1, d2, d3, d4] => { results := [.lit (.bool true)], args := [d1, d2, d3, d4] }
  | _ => none }
def fnCursorBytesSplitsUnreadRow : OpenClaim := { program := "qxb6603576a", sum := "de81a5ae87060d5d7743dff10cf3bd3037673294f13f7b49da5886eb4a871a42", func := "example.com/keystub/keystub/zzlaws_root_b1.FnCursorBytesSplitsUnread", spec := "fnCursorBytesSplitsUnread", apart := false }
def FnCursorBytesSplitsUnreadSaid : Prop := fnCursorBytesSplitsUnreadRow.holds Try.pinned (OpenSpec.ofChange fnCursorBytesSplitsUnreadSpec)

/-- ITS FALSE NEIGHBOUR: 'it returns false'. Refute it at one input. -/
def fnCursorBytesSplitsUnreadWrong : ChangeSpec := { name := "fnCursorBytesSplitsUnread", fn := fun _ => fun
  | [d1, d2, d3, d4] => { results := [.lit (.bool false)], args := [d1, d2, d3, d4] }
  | _ => none }
def FnCursorBytesSplitsUnreadWrongFalsely : Prop := fnCursorBytesSplitsUnreadRow.holds Try.pinned (OpenSpec.ofChange fnCursorBytesSplitsUnreadWrong)

/-- 'zzlaws_root_b1.FnCursorBytesTwoReadsAsOne': WHATEVER THE INPUT: true; the input reads as it did. -/
def fnCursorBytesTwoReadsAsOneSpec : ChangeSpec := { name := "fnCursorBytesTwoReadsAsOne", fn := fun _ => fun
  | [d1, d2, d3, d4, d5] => { results := [.lit (.bool true)], args := [d1, d2, d3, d4, d5] }
  | _ => none }
def fnCursorBytesTwoReadsAsOneRow : OpenClaim := { program := "qxb6603576a", sum := "de81a5ae87060d5d7743dff10cf3bd3037673294f13f7b49da5886eb4a871a42", func := "example.com/keystub/keystub/zzlaws_root_b1.FnCursorBytesTwoReadsAsOne", spec := "fnCursorBytesTwoReadsAsOne", apart := false }
def FnCursorBytesTwoReadsAsOneSaid : Prop := fnCursorBytesTwoReadsAsOneRow.holds Try.pinned (OpenSpec.ofChange fnCursorBytesTwoReadsAsOneSpec)

/-- ITS FALSE NEIGHBOUR: 'it returns false'. Refute it at one input. -/
def fnCursorBytesTwoReadsAsOneWrong : ChangeSpec := { name := "fnCursorBytesTwoReadsAsOne", fn := fun _ => fun
  | [d1, d2, d3, d4, d5] => { results := [.lit (.bool false)], args := [d1, d2, d3, d4, d5] }
  | _ => none }
def FnCursorBytesTwoReadsAsOneWrongFalsely : Prop := fnCursorBytesTwoReadsAsOneRow.holds Try.pinned (OpenSpec.ofChange fnCursorBytesTwoReadsAsOneWrong)

end Rows
end Go.Proofs.Qxb6603576a
