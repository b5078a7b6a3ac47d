/-
  No cell of these rows narrows 'for every input' (looked for: loops, veiled, ifaces, maps, wideKeys, modest, calm, conditions, laid).
  DERIVED. THE GIVEN ROWS OF THIS SEAT. 7 by the template 'for every input the law returns true; each argument reads behind the call as it read before'; 0 by the template 'total and deterministic' (their statements: Qxb6602921aTotals.lean).
  GIVEN WITH THE SEED: the statements are not yours to turn. If you find one false, say at which input.
  Laid BY PROGRAM, IN A SANDBOX (cutbox-rows.mjs): the forced cells as the released guide's own fill.sh prints them over the translation efbf6bdf071762a7… (all of the seat's roots in one cut). By AI agents, Wed Nov 11 2026. No macro, syntax, notation, axiom, sorry.
-/
import Derived.Test.Qxb6602921aChecked
import GoSem.Claim
import GoSem.ClaimJoined
import GoSem.ClaimMapViews
import Derived.JoinedTies
import Derived.KernelRfl
namespace Go.Proofs.Qxb6602921a
/- THE CELL 'sum', in the pinned program and in every row, IS THE sha256 OF THE DUMP (.gsa) THAT Qxb6602921aProg.lean LOADS. Nothing in Lean hashes anything: it is a label: what it is worth is what the hold of that sum in a sandbox is worth. -/
noncomputable def Try.pinned : Pinned := { name := "qxb6602921a", sum := "efbf6bdf071762a7323052acd77699be1d3faf6618e3f80023845dbe25bfa33d", checked := Try.checked }
namespace Rows
def none {H : Type} : Left H := { results := [], args := [] }

/-- 'zzlaws_feerate_b1.FnNthSelectsRankK': WHATEVER THE INPUT: true; the input reads as it did. -/
def fnNthSelectsRankKSpec : ChangeSpec := { name := "fnNthSelectsRankK", fn := fun _ => fun
  | [d1, d2] => { results := [.lit (.bool true)], args := [d1, d2] }
  | _ => none }
def fnNthSelectsRankKRow : OpenClaim := { program := "qxb6602921a", sum := "efbf6bdf071762a7323052acd77699be1d3faf6618e3f80023845dbe25bfa33d", func := "example.com/feecast/feecast/zzlaws_feerate_b1.FnNthSelectsRankK", spec := "fnNthSelectsRankK", apart := false }
def FnNthSelectsRankKSaid : Prop := fnNthSelectsRankKRow.holds Try.pinned (OpenSpec.ofChange fnNthSelectsRankKSpec)

/-- ITS FALSE NEIGHBOUR: 'it returns false'. Refute it at one input. -/
def fnNthSelectsRankKWrong : ChangeSpec := { name := "fnNthSelectsRankK", fn := fun _ => fun
  | [d1, d2] => { results := [.lit (.bool false)], args := [d1, d2] }
  | _ => none }
def FnNthSelectsRankKWrongFalsely : Prop := fnNthSelectsRankKRow.holds Try.pinned (OpenSpec.ofChange fnNthSelectsRankKWrong)

/-- 'zzlaws_feerate_b1.FnNthMonotoneInRank': WHATEVER THE INPUT: true; the input reads as it did. -/
def fnNthMonotoneInRankSpec : ChangeSpec := { name := "fnNthMonotoneInRank", fn := fun _ => fun
  | [d1, d2, d3] => { results := [.lit (.bool true)], args := [d1, d2, d3] }
  | _ => none }
def fnNthMonotoneInRankRow : OpenClaim := { program := "qxb6602921a", sum := "efbf6bdf071762a7323052acd77699be1d3faf6618e3f80023845dbe25bfa33d", func := "example.com/feecast/feecast/zzlaws_feerate_b1.FnNthMonotoneInRank", spec := "fnNthMonotoneInRank", apart := false }
def FnNthMonotoneInRankSaid : Prop := fnNthMonotoneInRankRow.holds Try.pinned (OpenSpec.ofChange fnNthMonotoneInRankSpec)

/-- ITS FALSE NEIGHBOUR: 'it returns false'. Refute it at one input. -/
def fnNthMonotoneInRankWrong : ChangeSpec := { name := "fnNthMonotoneInRank", fn := fun _ => fun
  | [d1, d2, d3] => { results := [.lit (.bool false)], args := [d1, d2, d3] }
  | _ => none }
def FnNthMonotoneInRankWrongFalsely : Prop := fnNthMonotoneInRankRow.holds Try.pinned (OpenSpec.ofChange fnNthMonotoneInRankWrong)

/-- 'zzlaws_feerate_b1.FnNthIgnoresInputOrder': WHATEVER THE INPUT: true; the input reads as it did. -/
def fnNthIgnoresInputOrderSpec : ChangeSpec := { name := "fnNthIgnoresInputOrder", fn := fun _ => fun
  | [d1, d2] => { results := [.lit (.bool true)], args := [d1, d2] }
  | _ => none }
def fnNthIgnoresInputOrderRow : OpenClaim := { program := "qxb6602921a", sum := "efbf6bdf071762a7323052acd77699be1d3faf6618e3f80023845dbe25bfa33d", func := "example.com/feecast/feecast/zzlaws_feerate_b1.FnNthIgnoresInputOrder", spec := "fnNthIgnoresInputOrder", apart := false }
def FnNthIgnoresInputOrderSaid : Prop := fnNthIgnoresInputOrderRow.holds Try.pinned (OpenSpec.ofChange fnNthIgnoresInputOrderSpec)

/-- ITS FALSE NEIGHBOUR: 'it returns false'. Refute it at one input. -/
def fnNthIgnoresInputOrderWrong : ChangeSpec := { name := "fnNthIgnoresInputOrder", fn := fun _ => fun
  | [d1, d2] => { results := [.lit (.bool false)], args := [d1, d2] }
  | _ => none }
def FnNthIgnoresInputOrderWrongFalsely : Prop := fnNthIgnoresInputOrderRow.holds Try.pinned (OpenSpec.ofChange fnNthIgnoresInputOrderWrong)

/-- 'zzlaws_feerate_b1.FnMovedAlikeSidesOfTheMedian': WHATEVER THE INPUT: true; the input reads as it did. -/
def fnMovedAlikeSidesOfTheMedianSpec : ChangeSpec := { name := "fnMovedAlikeSidesOfTheMedian", fn := fun _ => fun
  | [d] => { results := [.lit (.bool true)], args := [d] }
  | _ => none }
def fnMovedAlikeSidesOfTheMedianRow : OpenClaim := { program := "qxb6602921a", sum := "efbf6bdf071762a7323052acd77699be1d3faf6618e3f80023845dbe25bfa33d", func := "example.com/feecast/feecast/zzlaws_feerate_b1.FnMovedAlikeSidesOfTheMedian", spec := "fnMovedAlikeSidesOfTheMedian", apart := false }
def FnMovedAlikeSidesOfTheMedianSaid : Prop := fnMovedAlikeSidesOfTheMedianRow.holds Try.pinned (OpenSpec.ofChange fnMovedAlikeSidesOfTheMedianSpec)

/-- ITS FALSE NEIGHBOUR: 'it returns false'. Refute it at one input. -/
def fnMovedAlikeSidesOfTheMedianWrong : ChangeSpec := { name := "fnMovedAlikeSidesOfTheMedian", fn := fun _ => fun
  | [d] => { results := [.lit (.bool false)], args := [d] }
  | _ => none }
def FnMovedAlikeSidesOfTheMedianWrongFalsely : Prop := fnMovedAlikeSidesOfTheMedianRow.holds Try.pinned (OpenSpec.ofChange fnMovedAlikeSidesOfTheMedianWrong)

/-- 'zzlaws_feerate_b1.FnMovedAlikeShape': WHATEVER THE INPUT: true; the input reads as it did. -/
def fnMovedAlikeShapeSpec : ChangeSpec := { name := "fnMovedAlikeShape", fn := fun _ => fun
  | [d] => { results := [.lit (.bool true)], args := [d] }
  | _ => none }
def fnMovedAlikeShapeRow : OpenClaim := { program := "qxb6602921a", sum := "efbf6bdf071762a7323052acd77699be1d3faf6618e3f80023845dbe25bfa33d", func := "example.com/feecast/feecast/zzlaws_feerate_b1.FnMovedAlikeShape", spec := "fnMovedAlikeShape", apart := false }
def FnMovedAlikeShapeSaid : Prop := fnMovedAlikeShapeRow.holds Try.pinned (OpenSpec.ofChange fnMovedAlikeShapeSpec)

/-- ITS FALSE NEIGHBOUR: 'it returns false'. Refute it at one input. -/
def fnMovedAlikeShapeWrong : ChangeSpec := { name := "fnMovedAlikeShape", fn := fun _ => fun
  | [d] => { results := [.lit (.bool false)], args := [d] }
  | _ => none }
def FnMovedAlikeShapeWrongFalsely : Prop := fnMovedAlikeShapeRow.holds Try.pinned (OpenSpec.ofChange fnMovedAlikeShapeWrong)

/-- 'zzlaws_feerate_b1.FnDropOldestKeepsSortedView': WHATEVER THE INPUT: true; the input reads as it did. -/
def fnDropOldestKeepsSortedViewSpec : ChangeSpec := { name := "fnDropOldestKeepsSortedView", fn := fun _ => fun
  | [d1, d2, d3] => { results := [.lit (.bool true)], args := [d1, d2, d3] }
  | _ => none }
def fnDropOldestKeepsSortedViewRow : OpenClaim := { program := "qxb6602921a", sum := "efbf6bdf071762a7323052acd77699be1d3faf6618e3f80023845dbe25bfa33d", func := "example.com/feecast/feecast/zzlaws_feerate_b1.FnDropOldestKeepsSortedView", spec := "fnDropOldestKeepsSortedView", apart := false }
def FnDropOldestKeepsSortedViewSaid : Prop := fnDropOldestKeepsSortedViewRow.holds Try.pinned (OpenSpec.ofChange fnDropOldestKeepsSortedViewSpec)

/-- ITS FALSE NEIGHBOUR: 'it returns false'. Refute it at one input. -/
def fnDropOldestKeepsSortedViewWrong : ChangeSpec := { name := "fnDropOldestKeepsSortedView", fn := fun _ => fun
  | [d1, d2, d3] => { results := [.lit (.bool false)], args := [d1, d2, d3] }
  | _ => none }
def FnDropOldestKeepsSortedViewWrongFalsely : Prop := fnDropOldestKeepsSortedViewRow.holds Try.pinned (OpenSpec.ofChange fnDropOldestKeepsSortedViewWrong)

/-- 'zzlaws_feerate_b1.FnDropOldestDrainsOldestFirst': WHATEVER THE INPUT: true; the input reads as it did. -/
def fnDropOldestDrainsOldestFirstSpec : ChangeSpec := { name := "fnDropOldestDrainsOldestFirst", fn := fun _ => fun
  | [d1, d2, d3, d4] => { results := [.lit (.bool true)], args := [d1, d2, d3, d4] }
  | _ => none }
def fnDropOldestDrainsOldestFirstRow : OpenClaim := { program := "qxb6602921a", sum := "efbf6bdf071762a7323052acd77699be1d3faf6618e3f80023845dbe25bfa33d", func := "example.com/feecast/feecast/zzlaws_feerate_b1.FnDropOldestDrainsOldestFirst", spec := "fnDropOldestDrainsOldestFirst", apart := false }
def FnDropOldestDrainsOldestFirstSaid : Prop := fnDropOldestDrainsOldestFirstRow.holds Try.pinned (OpenSpec.ofChange fnDropOldestDrainsOldestFirstSpec)

/-- ITS FALSE NEIGHBOUR: 'it returns false'. Refute it at one input. -/
def fnDropOldestDrainsOldestFirstWrong : ChangeSpec := { name := "fnDropOldestDrainsOldestFirst", fn := fun _ => fun
  | [d1, d2, d3, d4] => { results := [.lit (.bool false)], args := [d1, d2, d3, d4] }
  | _ => none }
def FnDropOldestDrainsOldestFirstWrongFalsely : Prop := fnDropOldestDrainsOldestFirstRow.holds Try.pinned (OpenSpec.ofChange fnDropOldestDrainsOldestFirstWrong)

end Rows
end Go.Proofs.Qxb6602921a
