/-
  The queue's state behind i drops, and one more drop.
-/
import Derived.Test.Qxb6602921aDrop
import Derived.Test.Qxb6602921aSView
namespace Go.Proofs.Qxb6602921a
open Go.RowKit Go.Sort

/-- The row without its first i places. -/
def dr (d : Array Nat) (i : Nat) : Array Nat := (d.toList.drop i).toArray
theorem dr_size {d : Array Nat} {n : Nat} (hd : d.size = n) (i : Nat) : (dr d i).size = n - i := by
  unfold dr
  simp [hd]
theorem dr_zero (d : Array Nat) : dr d 0 = d := by
  unfold dr
  simp
theorem dr_tl (d : Array Nat) (i : Nat) : tl (dr d i) = dr d (i + 1) := by
  unfold tl dr
  simp [List.drop_drop]
theorem dr_get {d : Array Nat} (i t : Nat) : (dr d i)[t]! = d[i + t]! := by
  have key : (dr d i)[t]? = d[i + t]? := by
    unfold dr
    simp
  rw [getElem!_def, key, getElem!_def]

/-- What a world holds of a queue of n values behind i drops: the struct at P, its row at Q, the old row's copy at O. -/
structure QSt (w wr : World) (P Q O n i : Nat) (d : Array Nat) (b : Bool) : Prop where
  bel : Below w.heap.size w wr
  hP : w.heap.size ≤ P
  pq : Q ≠ P
  po : O ≠ P
  f0 : wr.frozen? ⟨P, 0, none⟩ = false
  f1 : wr.frozen? ⟨P, 1, none⟩ = false
  c0 : ∃ oq, (i < n → oq = i) ∧ wr.cell? ⟨P, 0, none⟩ = some (.slice (some ⟨Q, oq, none⟩) (n - i) (n - i))
  c2 : wr.cell? ⟨P, 2, none⟩ = some (.bool b)
  qs : ∀ t, t < n → wr.cell? ⟨Q, t, none⟩ = some (.float .f64 d[t]!)
  os : ∀ t, t < n → wr.cell? ⟨O, t, none⟩ = some (.float .f64 d[t]!)

/-- .. and of its view, where it is not nil: the row at S, of capacity n. -/
structure VSt (w wr : World) (P Q O S n i : Nat) (d s : Array Nat) : Prop where
  hS : w.heap.size ≤ S
  sp : S ≠ P
  sq : Q ≠ S
  so : O ≠ S
  c1 : wr.cell? ⟨P, 1, none⟩ = some (.slice (some ⟨S, 0, none⟩) (n - i) n)
  hold : Holds enc wr S 0 s
  view : View (n - i) s (dr d i)

theorem QSt.drewN {w wr : World} {P Q O n i : Nat} {d : Array Nat} {b : Bool} (h : QSt w wr P Q O n i d b) (q : Nat) : QSt w (wr.drewN q) P Q O n i d b :=
  ⟨bel_drewN h.bel q, h.hP, h.pq, h.po, h.f0, h.f1, h.c0, h.c2, h.qs, h.os⟩
theorem VSt.drewN {w wr : World} {P Q O S n i : Nat} {d s : Array Nat} (h : VSt w wr P Q O S n i d s) (q : Nat) : VSt w (wr.drewN q) P Q O S n i d s :=
  ⟨h.hS, h.sp, h.sq, h.so, h.c1, h.hold, h.view⟩

theorem ne_block {p q a b : Nat} (h : q ≠ p) : (⟨p, a, none⟩ : Addr) ≠ ⟨q, b, none⟩ := fun e => h (by injection e with e1; exact e1.symm)

theorem QSt.store0 {w wr : World} {P Q O n i : Nat} {d : Array Nat} {b : Bool} (h : QSt w wr P Q O n i d b) (oq : Nat) (ho : i + 1 < n → oq = i + 1) :
    QSt w (wr.setCell ⟨P, 0, none⟩ (.slice (some ⟨Q, oq, none⟩) (n - (i + 1)) (n - (i + 1)))) P Q O n (i + 1) d b := by
  obtain ⟨oq0, _, hc0⟩ := h.c0
  refine ⟨h.bel.setCell h.hP _, h.hP, h.pq, h.po, ?_, ?_, ⟨oq, ho, ?_⟩, ?_, fun t ht => ?_, fun t ht => ?_⟩
  · rw [World.frozen?_setCell]; exact h.f0
  · rw [World.frozen?_setCell]; exact h.f1
  · exact World.cell?_setCell_same _ _ _ hc0
  · rw [World.cell?_setCell_other _ _ _ _ (by simp)]; exact h.c2
  · rw [World.cell?_setCell_other _ _ _ _ (ne_block h.pq)]; exact h.qs t ht
  · rw [World.cell?_setCell_other _ _ _ _ (ne_block h.po)]; exact h.os t ht
theorem QSt.store1 {w wr : World} {P Q O n i : Nat} {d : Array Nat} {b : Bool} (h : QSt w wr P Q O n i d b) (v : Value) : QSt w (wr.setCell ⟨P, 1, none⟩ v) P Q O n i d b := by
  obtain ⟨oq0, ho, hc0⟩ := h.c0
  refine ⟨h.bel.setCell h.hP _, h.hP, h.pq, h.po, ?_, ?_, ⟨oq0, ho, ?_⟩, ?_, fun t ht => ?_, fun t ht => ?_⟩
  · rw [World.frozen?_setCell]; exact h.f0
  · rw [World.frozen?_setCell]; exact h.f1
  · rw [World.cell?_setCell_other _ _ _ _ (by simp)]; exact hc0
  · rw [World.cell?_setCell_other _ _ _ _ (by simp)]; exact h.c2
  · rw [World.cell?_setCell_other _ _ _ _ (ne_block h.pq)]; exact h.qs t ht
  · rw [World.cell?_setCell_other _ _ _ _ (ne_block h.po)]; exact h.os t ht
theorem QSt.put {w wr : World} {P Q O n i : Nat} {d : Array Nat} {b : Bool} (h : QSt w wr P Q O n i d b) (S : Nat) (z : Array Nat) (hS : w.heap.size ≤ S) (sp : S ≠ P) (sq : Q ≠ S) (so : O ≠ S) : QSt w (putRow enc wr S 0 z) P Q O n i d b := by
  obtain ⟨oq0, ho, hc0⟩ := h.c0
  refine ⟨bel_putRow h.bel enc 0 z hS, h.hP, h.pq, h.po, ?_, ?_, ⟨oq0, ho, ?_⟩, ?_, fun t ht => ?_, fun t ht => ?_⟩
  · rw [frozen?_putRow]; exact h.f0
  · rw [frozen?_putRow]; exact h.f1
  · rw [cell?_putRow_other _ _ _ _ _ _ (.inl (Ne.symm sp))]; exact hc0
  · rw [cell?_putRow_other _ _ _ _ _ _ (.inl (Ne.symm sp))]; exact h.c2
  · rw [cell?_putRow_other _ _ _ _ _ _ (.inl sq)]; exact h.qs t ht
  · rw [cell?_putRow_other _ _ _ _ _ _ (.inl so)]; exact h.os t ht

theorem rest_at (Q oq n i : Nat) (hi : i < n) (ho : oq = i) : ∃ oq', (i + 1 < n → oq' = i + 1) ∧ rest Q oq (n - i) (n - i) = .slice (some ⟨Q, oq', none⟩) (n - (i + 1)) (n - (i + 1)) := by
  subst ho
  unfold rest
  refine ⟨if n - oq = 1 then oq else oq + 1, fun h => by rw [if_neg (by omega)], ?_⟩
  rw [show n - oq - 1 = n - (oq + 1) by omega]

/-- One more drop, the view nil. -/
theorem drop_nil_q {w wr : World} {P Q O n i : Nat} {d : Array Nat} {b : Bool} (h : QSt w wr P Q O n i d b) (hi : i < n) (hn : n ≤ 1048576) (h1 : wr.cell? ⟨P, 1, none⟩ = some (.slice none 0 0)) :
    Calls Try.prog 26 #[.pointer (some ⟨P, 0, none⟩)] wr fun e w' => e = .returned (.tuple #[]) ∧ (QSt w w' P Q O n (i + 1) d b ∧ w'.cell? ⟨P, 1, none⟩ = some (.slice none 0 0)) := by
  obtain ⟨oq, ho, hc0⟩ := h.c0
  have hoq := ho hi
  obtain ⟨oq', ho', hr⟩ := rest_at Q oq n i hi hoq
  refine zzdrop_of P wr _ ?_
  refine (drop_nil P Q oq (n - i) (n - i) d[i]! wr (by omega) (Nat.le_refl _) (by omega) hc0 h.f0 h1 (by rw [hoq]; exact h.qs i hi)).mono ?_
  rintro e w' ⟨rfl, rfl⟩
  rw [hr]
  refine ⟨rfl, h.store0 oq' ho', ?_⟩
  rw [World.cell?_setCell_other _ _ _ _ (by simp)]
  exact h1

theorem delZ_get {s : Array Nat} {m i : Nat} (hs : s.size = m) (hi : i < m) (t : Nat) (ht : t < m - 1) : (delZ s i)[t]! = (delV s i)[t]! := by
  have h1 : t < (delV s i).size := by rw [delV_size hs hi]; exact ht
  have e : delZ s i = delV s i ++ #[0] := by
    unfold delZ delV
    simp
  rw [e, getElem!_def, getElem!_def, Array.getElem?_append_left h1]
theorem delZ_size {s : Array Nat} {m i : Nat} (hs : s.size = m) (hi : i < m) : (delZ s i).size = m := by
  unfold delZ
  simp
  omega

/-- One more drop, the view kept. -/
theorem drop_some_q {w wr : World} {P Q O S n i : Nat} {d s : Array Nat} {b : Bool} (h : QSt w wr P Q O n i d b) (hv : VSt w wr P Q O S n i d s) (hi : i < n) (hd : d.size = n) (hn : n ≤ 1048576) :
    Calls Try.prog 26 #[.pointer (some ⟨P, 0, none⟩)] wr fun e w' => e = .returned (.tuple #[]) ∧ (QSt w w' P Q O n (i + 1) d b ∧ ∃ s', VSt w w' P Q O S n (i + 1) d s') := by
  obtain ⟨oq, ho, hc0⟩ := h.c0
  have hoq := ho hi
  obtain ⟨oq', ho', hr⟩ := rest_at Q oq n i hi hoq
  refine zzdrop_of P wr _ ?_
  refine (drop_some P Q S oq (n - i) (n - i) n (dr d i) s wr (by omega) (Nat.le_refl _) (by omega) (by omega) hn hc0 h.f0 hv.c1 h.f1 (by rw [hoq, dr_get i 0]; exact h.qs i hi) hv.hold hv.sp hv.view).mono ?_
  rintro e w' ⟨rfl, j, q, hj, hk, rfl⟩
  rw [hr]
  have h0 := h.store0 oq' ho'
  have hss := hv.view.ss
  have H0 : Holds enc (wr.setCell ⟨P, 0, none⟩ (.slice (some ⟨Q, oq', none⟩) (n - (i + 1)) (n - (i + 1)))) S 0 s := by
    intro t ht
    rw [World.cell?_setCell_other _ _ _ _ (ne_block hv.sp), World.frozen?_setCell]
    exact hv.hold t ht
  have H1 := holds_putRow enc _ S 0 s (delZ s j) H0 (by rw [delZ_size hss hj, hss])
  have e1 : n - (i + 1) = n - i - 1 := by omega
  refine ⟨rfl, ((h0.put S _ hv.hS hv.sp hv.sq hv.so).drewN q).store1 _, delV s j, hv.hS, hv.sp, hv.sq, hv.so, ?_, fun t ht => ?_, ?_⟩
  · rw [e1]
    refine World.cell?_setCell_same _ _ _ (u := .slice (some ⟨S, 0, none⟩) (n - i) n) ?_
    rw [World.cell?_drewN, cell?_putRow_other _ _ _ _ _ _ (.inl (Ne.symm hv.sp)), World.cell?_setCell_other _ _ _ _ (by simp)]
    exact hv.c1
  · rw [World.cell?_setCell_other _ _ _ _ (ne_block hv.sp), World.frozen?_setCell, World.cell?_drewN, World.frozen?_drewN]
    rw [delV_size hss hj] at ht
    rw [← delZ_get hss hj t ht]
    exact H1 t (by rw [delZ_size hss hj]; omega)
  · rw [e1, ← dr_tl]
    exact hv.view.drop hj hk
end Go.Proofs.Qxb6602921a
