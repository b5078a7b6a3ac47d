/-
  No cell of these rows narrows 'for every input' (looked for: loops, veiled, ifaces, maps, wideKeys, modest, calm, conditions, laid).
  DERIVED. THE GIVEN ROWS OF THIS SEAT. 2 by the template 'for every input the law returns true; each argument reads behind the call as it read before'; 0 by the template 'total and deterministic' (their statements: Qxb6604496aTotals.lean).
  GIVEN WITH THE SEED: the statements are not yours to turn. If you find one false, say at which input.
  Laid BY PROGRAM, IN A SANDBOX (cutbox-rows.mjs): the forced cells as the released guide's own fill.sh prints them over the translation c842979f50a7f723… (all of the seat's roots in one cut). By AI agents, Wed Nov 11 2026. No macro, syntax, notation, axiom, sorry.
-/
import Derived.Test.Qxb6604496aChecked
import GoSem.Claim
import GoSem.ClaimJoined
import GoSem.ClaimMapViews
import Derived.JoinedTies
import Derived.KernelRfl
namespace Go.Proofs.Qxb6604496a
/- THE CELL 'sum', in the pinned program and in every row, IS THE sha256 OF THE DUMP (.gsa) THAT Qxb6604496aProg.lean LOADS. Nothing in Lean hashes anything: it is a label: what it is worth is what the hold of that sum in a sandbox is worth. -/
noncomputable def Try.pinned : Pinned := { name := "qxb6604496a", sum := "c842979f50a7f7233d61a2c4f9e5228bb61664db210a34119410915e25adf229", checked := Try.checked }
namespace Rows
def none {H : Type} : Left H := { results := [], args := [] }

/-- 'zzlaws_root_b1.FnIsForMatchesSignedIdentifier': WHATEVER THE INPUT: true; the input reads as it did. -/
def fnIsForMatchesSignedIdentifierSpec : ChangeSpec := { name := "fnIsForMatchesSignedIdentifier", fn := fun _ => fun
  | [d1, d2] => { results := [.lit (.bool true)], args := [d1, d2] }
  | _ => none }
def fnIsForMatchesSignedIdentifierRow : OpenClaim := { program := "qxb6604496a", sum := "c842979f50a7f7233d61a2c4f9e5228bb61664db210a34119410915e25adf229", func := "example.com/mailgrant/mailgrant/zzlaws_root_b1.FnIsForMatchesSignedIdentifier", spec := "fnIsForMatchesSignedIdentifier", apart := false }
def FnIsForMatchesSignedIdentifierSaid : Prop := fnIsForMatchesSignedIdentifierRow.holds Try.pinned (OpenSpec.ofChange fnIsForMatchesSignedIdentifierSpec)

/-- ITS FALSE NEIGHBOUR: 'it returns false'. Refute it at one input. -/
def fnIsForMatchesSignedIdentifierWrong : ChangeSpec := { name := "fnIsForMatchesSignedIdentifier", fn := fun _ => fun
  | [d1, d2] => { results := [.lit (.bool false)], args := [d1, d2] }
  | _ => none }
def FnIsForMatchesSignedIdentifierWrongFalsely : Prop := fnIsForMatchesSignedIdentifierRow.holds Try.pinned (OpenSpec.ofChange fnIsForMatchesSignedIdentifierWrong)

/-- 'zzlaws_root_b1.FnIsNamedByGrowsByOneGroup': WHATEVER THE INPUT: true; the input reads as it did. -/
def fnIsNamedByGrowsByOneGroupSpec : ChangeSpec := { name := "fnIsNamedByGrowsByOneGroup", fn := fun _ => fun
  | [d1, d2, d3, d4, d5, d6, d7] => { results := [.lit (.bool true)], args := [d1, d2, d3, d4, d5, d6, d7] }
  | _ => none }
def fnIsNamedByGrowsByOneGroupRow : OpenClaim := { program := "qxb6604496a", sum := "c842979f50a7f7233d61a2c4f9e5228bb61664db210a34119410915e25adf229", func := "example.com/mailgrant/mailgrant/zzlaws_root_b1.FnIsNamedByGrowsByOneGroup", spec := "fnIsNamedByGrowsByOneGroup", apart := false }
def FnIsNamedByGrowsByOneGroupSaid : Prop := fnIsNamedByGrowsByOneGroupRow.holds Try.pinned (OpenSpec.ofChange fnIsNamedByGrowsByOneGroupSpec)

/-- ITS FALSE NEIGHBOUR: 'it returns false'. Refute it at one input. -/
def fnIsNamedByGrowsByOneGroupWrong : ChangeSpec := { name := "fnIsNamedByGrowsByOneGroup", fn := fun _ => fun
  | [d1, d2, d3, d4, d5, d6, d7] => { results := [.lit (.bool false)], args := [d1, d2, d3, d4, d5, d6, d7] }
  | _ => none }
def FnIsNamedByGrowsByOneGroupWrongFalsely : Prop := fnIsNamedByGrowsByOneGroupRow.holds Try.pinned (OpenSpec.ofChange fnIsNamedByGrowsByOneGroupWrong)

end Rows
end Go.Proofs.Qxb6604496a
