/-
  slices.Delete at []float64 (function 39): the shelf's contract, laid at this program.
-/
import Derived.Test.Qxb6602921aNth
import Derived.Shelf.SlicesE.Delete
import Derived.Shelf.SlGeneric
import Derived.Ground.SlgnProg
namespace Go.Proofs.Qxb6602921a
open Go.Shelf Go.RowKit Go.Sort

shelf_lay_g SlLaysE.n45 Slgn 45 at Try 39 as Try.del
noncomputable def Try.floatI : TypeInfo := (Try.prog.info? 25).get (by kernel_rfl)

/-- The row with its element i taken out, and a zero behind. -/
def delZ (d : Array Nat) (i : Nat) : Array Nat := (d.toList.take i ++ d.toList.drop (i + 1) ++ List.replicate 1 0).toArray

theorem delete_any (blk off n cap i : Nat) (d : Array Nat) (w : World) (hd : d.size = n) (hH : Holds enc w blk off d) (hcap : n ≤ cap) (hm : cap ≤ 9223372036854775807) (hi : i < n) :
    Calls Try.prog 39 #[.slice (some ⟨blk, off, none⟩) n cap, .int .i64 i, .int .i64 ((i : Int) + 1)] w fun e w' => e = .returned (.slice (some ⟨blk, off, none⟩) (n - 1) cap) ∧ ∃ q, w' = (putRow enc w blk off (delZ d i)).drewN q := by
  subst hd
  have h := AnyE.slices_Delete Try.del enc (fun _ => rfl) 0 Try.zeroValue25 Try.floatI (by kernel_rfl) (by kernel_rfl) blk off cap i (i + 1) d w hH hcap hm (by omega) (by omega)
  change Calls Try.prog 39 _ _ _ at h
  refine h.mono ?_
  rintro e w' ⟨rfl, q, rfl⟩
  refine ⟨by rw [show d.size - (i + 1 - i) = d.size - 1 by omega], q, ?_⟩
  rw [show i + 1 - i = 1 by omega]
  rfl
end Go.Proofs.Qxb6602921a
