/-
  Two structs in blocks of their own: what a world holds of them, behind calls and stores. (Two statements and proofs are laid by program.)
-/
import Derived.Test.Qxb6604496aEntry
import Derived.Test.Qxb6604496aBytes
namespace Go.Proofs.Qxb6604496a
open Go.RowKit Go.Sort

/-- The nine cells of a struct in a block of its own. -/
def Box (wr : World) (H : Nat) (V : Array Value) : Prop := ∀ t, t < 9 → wr.cell? ⟨H, t, none⟩ = V[t]? ∧ wr.frozen? ⟨H, t, none⟩ = false
theorem box_new (w : World) (V : Array Value) (ty : TypeId) : Box (w.alloc (.cells V ty)) w.heap.size V := fun t _ => by
  rw [World.cell?_alloc_at _ _ _ _ rfl, World.frozen?_alloc_at _ _ _ _ rfl]
  exact ⟨rfl, rfl⟩
theorem Box.below {wr wr' : World} {H : Nat} {V : Array Value} (h : Box wr H V) (hl : H < wr.heap.size) (hb : Below wr.heap.size wr wr') : Box wr' H V := fun t ht => by
  rw [hb.cell (show H < _ from hl), hb.frozen (show H < _ from hl)]
  exact h t ht
theorem Box.other {wr : World} {H H' : Nat} {V : Array Value} (h : Box wr H V) (hn : H ≠ H') (k : Nat) (v : Value) : Box (wr.setCell ⟨H', k, none⟩ v) H V := fun t ht => by
  rw [World.cell?_setCell_other _ _ _ _ (fun e => hn (by injection e with e1; exact e1.symm)), World.frozen?_setCell]
  exact h t ht
theorem Box.set {wr : World} {H : Nat} {V : Array Value} (h : Box wr H V) (hV : V.size = 9) (k : Nat) (v : Value) (hk : k < 9) : Box (wr.setCell ⟨H, k, none⟩ v) H (V.setIfInBounds k v) := fun t ht => by
  rw [World.frozen?_setCell, Array.getElem?_setIfInBounds]
  refine ⟨?_, (h t ht).2⟩
  by_cases e : k = t
  · subst e
    rw [if_pos rfl, if_pos (by omega)]
    have hc := (h k ht).1
    rw [Array.getElem?_eq_getElem (by omega)] at hc
    exact World.cell?_setCell_same _ _ _ hc
  · rw [if_neg e, World.cell?_setCell_other _ _ _ _ (fun g => e (by injection g))]
    exact (h t ht).1

/-- The two boxes of the law's parameters, at H and H + 1. -/
structure St (w wr : World) (H : Nat) (VA VB : Array Value) : Prop where
  bel : Below w.heap.size w wr
  hH : w.heap.size ≤ H
  lt : H + 1 < wr.heap.size
  A : Box wr H VA
  B : Box wr (H + 1) VB
theorem St.below {w wr wr' : World} {H : Nat} {VA VB : Array Value} (h : St w wr H VA VB) (hb : Below wr.heap.size wr wr') : St w wr' H VA VB :=
  ⟨h.bel.trans (hb.mono h.bel.size), h.hH, Nat.lt_of_lt_of_le h.lt hb.size, h.A.below (by have := h.lt; omega) hb, h.B.below h.lt hb⟩

theorem bel_grown {B : Nat} {a w : World} (h : Below B a w) (hB : B ≤ w.heap.size) (n : Nat) (os : Array Obj) : Below B a (grow (w.drewN n) os) :=
  ⟨h.os, h.tape, h.output, by have := h.size; simp; omega, fun k hk => by rw [heap_grow_old _ _ (show k < (w.drewN n).heap.size from Nat.lt_of_lt_of_le hk hB)]; exact h.block k hk⟩
theorem enB_le (t : Nat) (nm wr tx : ByteArray) (n : Nat) (S : Nat → ByteArray) : enB t nm wr tx n S ≤ 2097152 := strB_le _ _ _

theorem St.putA {w wr : World} {H : Nat} {x0 x1 x2 x3 x4 x5 x6 x7 x8 : Value} {VB : Array Value} (h : St w wr H #[x0, x1, x2, x3, x4, x5, x6, x7, x8] VB) (v0 v1 v2 v3 v4 v5 v6 v7 v8 : Value) : St w (((((((((wr.setCell ⟨H, 0, none⟩ (v0)).setCell ⟨H, 1, none⟩ (v1)).setCell ⟨H, 2, none⟩ (v2)).setCell ⟨H, 3, none⟩ (v3)).setCell ⟨H, 4, none⟩ (v4)).setCell ⟨H, 5, none⟩ (v5)).setCell ⟨H, 6, none⟩ (v6)).setCell ⟨H, 7, none⟩ (v7)).setCell ⟨H, 8, none⟩ (v8)) H #[v0, v1, v2, v3, v4, v5, v6, v7, v8] VB := by
  have g0 : Box (wr.setCell ⟨H, 0, none⟩ (v0)) H #[v0, x1, x2, x3, x4, x5, x6, x7, x8] := h.A.set rfl 0 v0 (by decide)
  have g1 : Box ((wr.setCell ⟨H, 0, none⟩ (v0)).setCell ⟨H, 1, none⟩ (v1)) H #[v0, v1, x2, x3, x4, x5, x6, x7, x8] := g0.set rfl 1 v1 (by decide)
  have g2 : Box (((wr.setCell ⟨H, 0, none⟩ (v0)).setCell ⟨H, 1, none⟩ (v1)).setCell ⟨H, 2, none⟩ (v2)) H #[v0, v1, v2, x3, x4, x5, x6, x7, x8] := g1.set rfl 2 v2 (by decide)
  have g3 : Box ((((wr.setCell ⟨H, 0, none⟩ (v0)).setCell ⟨H, 1, none⟩ (v1)).setCell ⟨H, 2, none⟩ (v2)).setCell ⟨H, 3, none⟩ (v3)) H #[v0, v1, v2, v3, x4, x5, x6, x7, x8] := g2.set rfl 3 v3 (by decide)
  have g4 : Box (((((wr.setCell ⟨H, 0, none⟩ (v0)).setCell ⟨H, 1, none⟩ (v1)).setCell ⟨H, 2, none⟩ (v2)).setCell ⟨H, 3, none⟩ (v3)).setCell ⟨H, 4, none⟩ (v4)) H #[v0, v1, v2, v3, v4, x5, x6, x7, x8] := g3.set rfl 4 v4 (by decide)
  have g5 : Box ((((((wr.setCell ⟨H, 0, none⟩ (v0)).setCell ⟨H, 1, none⟩ (v1)).setCell ⟨H, 2, none⟩ (v2)).setCell ⟨H, 3, none⟩ (v3)).setCell ⟨H, 4, none⟩ (v4)).setCell ⟨H, 5, none⟩ (v5)) H #[v0, v1, v2, v3, v4, v5, x6, x7, x8] := g4.set rfl 5 v5 (by decide)
  have g6 : Box (((((((wr.setCell ⟨H, 0, none⟩ (v0)).setCell ⟨H, 1, none⟩ (v1)).setCell ⟨H, 2, none⟩ (v2)).setCell ⟨H, 3, none⟩ (v3)).setCell ⟨H, 4, none⟩ (v4)).setCell ⟨H, 5, none⟩ (v5)).setCell ⟨H, 6, none⟩ (v6)) H #[v0, v1, v2, v3, v4, v5, v6, x7, x8] := g5.set rfl 6 v6 (by decide)
  have g7 : Box ((((((((wr.setCell ⟨H, 0, none⟩ (v0)).setCell ⟨H, 1, none⟩ (v1)).setCell ⟨H, 2, none⟩ (v2)).setCell ⟨H, 3, none⟩ (v3)).setCell ⟨H, 4, none⟩ (v4)).setCell ⟨H, 5, none⟩ (v5)).setCell ⟨H, 6, none⟩ (v6)).setCell ⟨H, 7, none⟩ (v7)) H #[v0, v1, v2, v3, v4, v5, v6, v7, x8] := g6.set rfl 7 v7 (by decide)
  have g8 : Box (((((((((wr.setCell ⟨H, 0, none⟩ (v0)).setCell ⟨H, 1, none⟩ (v1)).setCell ⟨H, 2, none⟩ (v2)).setCell ⟨H, 3, none⟩ (v3)).setCell ⟨H, 4, none⟩ (v4)).setCell ⟨H, 5, none⟩ (v5)).setCell ⟨H, 6, none⟩ (v6)).setCell ⟨H, 7, none⟩ (v7)).setCell ⟨H, 8, none⟩ (v8)) H #[v0, v1, v2, v3, v4, v5, v6, v7, v8] := g7.set rfl 8 v8 (by decide)
  exact ⟨(((((((((h.bel.setCell h.hH v0).setCell h.hH v1).setCell h.hH v2).setCell h.hH v3).setCell h.hH v4).setCell h.hH v5).setCell h.hH v6).setCell h.hH v7).setCell h.hH v8), h.hH, by have := h.lt; simpa using this, g8, (((((((((h.B.other (by omega) 0 v0).other (by omega) 1 v1).other (by omega) 2 v2).other (by omega) 3 v3).other (by omega) 4 v4).other (by omega) 5 v5).other (by omega) 6 v6).other (by omega) 7 v7).other (by omega) 8 v8)⟩
theorem St.putB {w wr : World} {H : Nat} {x0 x1 x2 x3 x4 x5 x6 x7 x8 : Value} {VA : Array Value} (h : St w wr H VA #[x0, x1, x2, x3, x4, x5, x6, x7, x8]) (v0 v1 v2 v3 v4 v5 v6 v7 v8 : Value) : St w (((((((((wr.setCell ⟨H + 1, 0, none⟩ (v0)).setCell ⟨H + 1, 1, none⟩ (v1)).setCell ⟨H + 1, 2, none⟩ (v2)).setCell ⟨H + 1, 3, none⟩ (v3)).setCell ⟨H + 1, 4, none⟩ (v4)).setCell ⟨H + 1, 5, none⟩ (v5)).setCell ⟨H + 1, 6, none⟩ (v6)).setCell ⟨H + 1, 7, none⟩ (v7)).setCell ⟨H + 1, 8, none⟩ (v8)) H VA #[v0, v1, v2, v3, v4, v5, v6, v7, v8] := by
  have g0 : Box (wr.setCell ⟨H + 1, 0, none⟩ (v0)) (H + 1) #[v0, x1, x2, x3, x4, x5, x6, x7, x8] := h.B.set rfl 0 v0 (by decide)
  have g1 : Box ((wr.setCell ⟨H + 1, 0, none⟩ (v0)).setCell ⟨H + 1, 1, none⟩ (v1)) (H + 1) #[v0, v1, x2, x3, x4, x5, x6, x7, x8] := g0.set rfl 1 v1 (by decide)
  have g2 : Box (((wr.setCell ⟨H + 1, 0, none⟩ (v0)).setCell ⟨H + 1, 1, none⟩ (v1)).setCell ⟨H + 1, 2, none⟩ (v2)) (H + 1) #[v0, v1, v2, x3, x4, x5, x6, x7, x8] := g1.set rfl 2 v2 (by decide)
  have g3 : Box ((((wr.setCell ⟨H + 1, 0, none⟩ (v0)).setCell ⟨H + 1, 1, none⟩ (v1)).setCell ⟨H + 1, 2, none⟩ (v2)).setCell ⟨H + 1, 3, none⟩ (v3)) (H + 1) #[v0, v1, v2, v3, x4, x5, x6, x7, x8] := g2.set rfl 3 v3 (by decide)
  have g4 : Box (((((wr.setCell ⟨H + 1, 0, none⟩ (v0)).setCell ⟨H + 1, 1, none⟩ (v1)).setCell ⟨H + 1, 2, none⟩ (v2)).setCell ⟨H + 1, 3, none⟩ (v3)).setCell ⟨H + 1, 4, none⟩ (v4)) (H + 1) #[v0, v1, v2, v3, v4, x5, x6, x7, x8] := g3.set rfl 4 v4 (by decide)
  have g5 : Box ((((((wr.setCell ⟨H + 1, 0, none⟩ (v0)).setCell ⟨H + 1, 1, none⟩ (v1)).setCell ⟨H + 1, 2, none⟩ (v2)).setCell ⟨H + 1, 3, none⟩ (v3)).setCell ⟨H + 1, 4, none⟩ (v4)).setCell ⟨H + 1, 5, none⟩ (v5)) (H + 1) #[v0, v1, v2, v3, v4, v5, x6, x7, x8] := g4.set rfl 5 v5 (by decide)
  have g6 : Box (((((((wr.setCell ⟨H + 1, 0, none⟩ (v0)).setCell ⟨H + 1, 1, none⟩ (v1)).setCell ⟨H + 1, 2, none⟩ (v2)).setCell ⟨H + 1, 3, none⟩ (v3)).setCell ⟨H + 1, 4, none⟩ (v4)).setCell ⟨H + 1, 5, none⟩ (v5)).setCell ⟨H + 1, 6, none⟩ (v6)) (H + 1) #[v0, v1, v2, v3, v4, v5, v6, x7, x8] := g5.set rfl 6 v6 (by decide)
  have g7 : Box ((((((((wr.setCell ⟨H + 1, 0, none⟩ (v0)).setCell ⟨H + 1, 1, none⟩ (v1)).setCell ⟨H + 1, 2, none⟩ (v2)).setCell ⟨H + 1, 3, none⟩ (v3)).setCell ⟨H + 1, 4, none⟩ (v4)).setCell ⟨H + 1, 5, none⟩ (v5)).setCell ⟨H + 1, 6, none⟩ (v6)).setCell ⟨H + 1, 7, none⟩ (v7)) (H + 1) #[v0, v1, v2, v3, v4, v5, v6, v7, x8] := g6.set rfl 7 v7 (by decide)
  have g8 : Box (((((((((wr.setCell ⟨H + 1, 0, none⟩ (v0)).setCell ⟨H + 1, 1, none⟩ (v1)).setCell ⟨H + 1, 2, none⟩ (v2)).setCell ⟨H + 1, 3, none⟩ (v3)).setCell ⟨H + 1, 4, none⟩ (v4)).setCell ⟨H + 1, 5, none⟩ (v5)).setCell ⟨H + 1, 6, none⟩ (v6)).setCell ⟨H + 1, 7, none⟩ (v7)).setCell ⟨H + 1, 8, none⟩ (v8)) (H + 1) #[v0, v1, v2, v3, v4, v5, v6, v7, v8] := g7.set rfl 8 v8 (by decide)
  exact ⟨(((((((((h.bel.setCell (show w.heap.size ≤ H + 1 from Nat.le_succ_of_le h.hH) v0).setCell (show w.heap.size ≤ H + 1 from Nat.le_succ_of_le h.hH) v1).setCell (show w.heap.size ≤ H + 1 from Nat.le_succ_of_le h.hH) v2).setCell (show w.heap.size ≤ H + 1 from Nat.le_succ_of_le h.hH) v3).setCell (show w.heap.size ≤ H + 1 from Nat.le_succ_of_le h.hH) v4).setCell (show w.heap.size ≤ H + 1 from Nat.le_succ_of_le h.hH) v5).setCell (show w.heap.size ≤ H + 1 from Nat.le_succ_of_le h.hH) v6).setCell (show w.heap.size ≤ H + 1 from Nat.le_succ_of_le h.hH) v7).setCell (show w.heap.size ≤ H + 1 from Nat.le_succ_of_le h.hH) v8), h.hH, by have := h.lt; simpa using this, (((((((((h.A.other (by omega) 0 v0).other (by omega) 1 v1).other (by omega) 2 v2).other (by omega) 3 v3).other (by omega) 4 v4).other (by omega) 5 v5).other (by omega) 6 v6).other (by omega) 7 v7).other (by omega) 8 v8), g8⟩

/-- The law's two entries, in blocks of their own. -/
structure En (w wr : World) (E1 E2 : Nat) (V1 V2 : Array Value) : Prop where
  bel : Below w.heap.size w wr
  lt1 : E1 < wr.heap.size
  lt2 : E2 < wr.heap.size
  A : Box wr E1 V1
  B : Box wr E2 V2
theorem En.below {w wr wr' : World} {E1 E2 : Nat} {V1 V2 : Array Value} (h : En w wr E1 E2 V1 V2) (hb : Below wr.heap.size wr wr') : En w wr' E1 E2 V1 V2 :=
  ⟨h.bel.trans (hb.mono h.bel.size), Nat.lt_of_lt_of_le h.lt1 hb.size, Nat.lt_of_lt_of_le h.lt2 hb.size, h.A.below h.lt1 hb, h.B.below h.lt2 hb⟩
theorem En.drewN {w wr : World} {E1 E2 : Nat} {V1 V2 : Array Value} (h : En w wr E1 E2 V1 V2) (n : Nat) : En w (wr.drewN n) E1 E2 V1 V2 :=
  ⟨⟨h.bel.os, h.bel.tape, h.bel.output, h.bel.size, h.bel.block⟩, h.lt1, h.lt2, h.A, h.B⟩
theorem made4 {w w6 : World} {H : Nat} {VA VB : Array Value} (h : St w w6 H VA VB) (X Y : Array Value) (ty : TypeId) :
    St w ((((w6.alloc (.cells X ty)).alloc (.cells X ty)).alloc (.cells Y ty)).alloc (.cells Y ty)) H VA VB ∧ En w ((((w6.alloc (.cells X ty)).alloc (.cells X ty)).alloc (.cells Y ty)).alloc (.cells Y ty)) (w6.heap.size + 1) (w6.heap.size + 1 + 1 + 1) X Y := by
  have one : ∀ (u : World) (o : Obj), Below u.heap.size u (u.alloc o) := fun u o => (Below.refl _ _).alloc (Nat.le_refl _) o
  have s4 := (((h.below (one _ (.cells X ty))).below (one _ (.cells X ty))).below (one _ (.cells Y ty))).below (one _ (.cells Y ty))
  have z1 : (w6.alloc (.cells X ty)).heap.size = w6.heap.size + 1 := by simp
  have z2 : ((w6.alloc (.cells X ty)).alloc (.cells X ty)).heap.size = w6.heap.size + 1 + 1 := by simp
  have z3 : (((w6.alloc (.cells X ty)).alloc (.cells X ty)).alloc (.cells Y ty)).heap.size = w6.heap.size + 1 + 1 + 1 := by simp
  have b1 := box_new (w6.alloc (.cells X ty)) X ty
  rw [z1] at b1
  have b1' := (b1.below (by rw [z2]; omega) (one _ (.cells Y ty))).below (by rw [z3]; omega) (one _ (.cells Y ty))
  have b2 := box_new (((w6.alloc (.cells X ty)).alloc (.cells X ty)).alloc (.cells Y ty)) Y ty
  rw [z3] at b2
  exact ⟨s4, s4.bel, by simp, by simp, b1', b2⟩
theorem calls_flip {f : Nat} {args : Array Value} {w : World} {v : Value} (h : Calls Try.prog f args w fun e w' => e = .returned v ∧ w = w') : Calls Try.prog f args w fun e w' => e = .returned v ∧ w' = w :=
  h.mono fun _ _ ⟨h1, h2⟩ => ⟨h1, h2.symm⟩
end Go.Proofs.Qxb6604496a
