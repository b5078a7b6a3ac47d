/-
  PLAIN: the value that nth selects at rank k and the value at place k of the sorted row are equal; so no comparison tells them apart. No program walk in this text.
-/
import Derived.Test.Qxb6602921aMoved
import Derived.Test.Qxb6602921aSelPlain
namespace Go.Proofs.Qxb6602921a
open Go.Sort

theorem nn_keys {x y : Nat} (hx : Fl.isN x = false) (hy : Fl.isN y = false) (h1 : Fl.lt x y = false) (h2 : Fl.lt y x = false) : Fl.key x = Fl.key y := by
  have g1 : ¬ Fl.klt (Fl.key x) (Fl.key y) := fun g => by rw [(Fl.lt_iff x y).2 ⟨hx, hy, g⟩] at h1; cases h1
  have g2 : ¬ Fl.klt (Fl.key y) (Fl.key x) := fun g => by rw [(Fl.lt_iff y x).2 ⟨hy, hx, g⟩] at h2; cases h2
  exact k2le_anti _ _ g2 g1

theorem lt_of_bef {x y g : Nat} (hy : Fl.isN x = false) (hb : Fl.bef y x = false) (h : Fl.lt y g = true) : Fl.lt x g = true := by
  obtain ⟨n1, n2, k1⟩ := (Fl.lt_iff y g).1 h
  have := bef_k2 hb
  refine (Fl.lt_iff x g).2 ⟨hy, n2, ?_⟩
  unfold k2le Fl.klt at this
  unfold Fl.klt at k1 ⊢
  omega
theorem gt_of_bef {x y g : Nat} (hy : Fl.isN y = false) (hb : Fl.bef y x = false) (h : Fl.lt g x = true) : Fl.le y g = false := by
  obtain ⟨n1, n2, k1⟩ := (Fl.lt_iff g x).1 h
  have := bef_k2 hb
  have k2 : Fl.klt (Fl.key g) (Fl.key y) := by
    unfold k2le Fl.klt at this
    unfold Fl.klt at k1 ⊢
    omega
  show (Fl.lt y g || Fl.eq y g) = false
  have e1 : Fl.lt y g = false := Fl.lt_asymm _ _ ((Fl.lt_iff g y).2 ⟨n1, hy, k2⟩)
  have e2 : Fl.eq y g = false := by
    cases c : Fl.eq y g with
    | false => rfl
    | true =>
      have := ((Fl.eq_iff y g).1 c).2.2
      rw [this] at k2
      unfold Fl.klt at k2
      omega
  rw [e1, e2]; rfl

theorem sorted_le {n : Nat} {s : Array Nat} (h : Sorted n s) (i j : Nat) (hij : i ≤ j) (hj : j < n) : Fl.bef s[j]! s[i]! = false := by
  by_cases e : i = j
  · subst e
    cases c : Fl.bef s[i]! s[i]! with
    | false => rfl
    | true => have := Fl.bef_asymm c; rw [c] at this; cases this
  · exact h i j (by omega) hj

/-- The median by selection and the median by sorting have one key. -/
theorem median_key {d dk s : Array Nat} {n k : Nat} (hd : d.size = n) (hk : k < n) (hp : Post d n k dk) (hN : NN d) (hs : s.size = n) (hso : Sorted n s) (hps : s.toList.Perm d.toList) : Fl.key dk[k]! = Fl.key s[k]! := by
  have r1 := rank_less hd hp hN
  have r2 := rank_most hd hk hp hN
  have hNk := NN_perm hp.perm hN
  have hNs := NN_perm hps hN
  have hsk := hp.size
  obtain ⟨g, hg⟩ : ∃ g, dk[k]! = g := ⟨_, rfl⟩
  have hgn : Fl.isN g = false := by rw [← hg]; exact hNk k (by omega)
  rw [hg] at r1 r2 ⊢
  unfold cntL at r1
  unfold cntM at r2
  rw [List.take_of_length_le (by simp; omega), ← hps.countP_eq] at r1 r2
  refine nn_keys hgn (hNs k (by omega)) ?_ ?_
  · -- not g < s[k]
    cases c : Fl.lt g s[k]! with
    | false => rfl
    | true =>
      exfalso
      have e : s.toList = s.toList.take k ++ s.toList.drop k := (List.take_append_drop _ _).symm
      rw [e, List.countP_append] at r2
      have z : (s.toList.drop k).countP (fun x => Fl.le x g) = 0 := by
        rw [List.countP_eq_zero]
        intro a ha
        obtain ⟨i, hi, rfl⟩ := List.getElem_of_mem ha
        have hi' : k + i < s.size := by simp at hi; omega
        have e2 : (s.toList.drop k)[i] = s[k + i]! := by rw [getElem!_pos s (k + i) hi']; simp
        rw [e2, gt_of_bef (hNs _ hi') (sorted_le hso k (k + i) (by omega) (by omega)) c]
        simp
      rw [z] at r2
      have := Nat.le_trans (List.countP_le_length (l := s.toList.take k) (p := fun x => Fl.le x g)) (List.length_take_le _ _)
      omega
  · cases c : Fl.lt s[k]! g with
    | false => rfl
    | true =>
      exfalso
      have e : s.toList = s.toList.take (k + 1) ++ s.toList.drop (k + 1) := (List.take_append_drop _ _).symm
      rw [e, List.countP_append] at r1
      have z : (s.toList.take (k + 1)).countP (fun x => Fl.lt x g) = (s.toList.take (k + 1)).length := by
        rw [List.countP_eq_length]
        intro a ha
        obtain ⟨i, hi, rfl⟩ := List.getElem_of_mem ha
        have hi' : i < k + 1 := by simp at hi; omega
        have hi2 : i < s.size := by omega
        have e2 : (s.toList.take (k + 1))[i] = s[i]! := by rw [getElem!_pos s i hi2]; simp
        rw [e2]
        exact lt_of_bef (hNs i hi2) (sorted_le hso i k (by omega) hk) c
      rw [z, List.length_take] at r1
      simp at r1
      omega

theorem ge_key {x g h : Nat} (hg : Fl.isN g = false) (hh : Fl.isN h = false) (e : Fl.key g = Fl.key h) : Fl.ge x g = Fl.ge x h := by
  show (Fl.gt x g || Fl.eq x g) = (Fl.gt x h || Fl.eq x h)
  have e1 : Fl.gt x g = Fl.gt x h := by rw [Bool.eq_iff_iff, Fl.gt_iff, Fl.gt_iff, hg, hh, e]
  have e2 : Fl.eq x g = Fl.eq x h := by rw [Bool.eq_iff_iff, Fl.eq_iff, Fl.eq_iff, hg, hh, e]
  rw [e1, e2]

/-- What movedAlike answers, told by the law's own moves and its own median. -/
theorem alike_law {d mv s : Array Nat} {m : Nat} {al : Array Bool} (hm : 1 ≤ m) (h : Alike d m al) (hmv : mv.size = m) (hq : ∀ t, t < m → Quo d[t + 1]! d[t]! mv[t]!) (hN : NN mv)
    (hs : s.size = m) (hso : Sorted m s) (hps : s.toList.Perm mv.toList) :
    ((∃ t, 1 ≤ t ∧ t < m ∧ Fl.ge mv[t - 1]! s[m / 2]! = Fl.ge mv[m - 1]! s[m / 2]!) ∧ al[0]! = false ∧ (∀ t, t < m → al[t + 1]! = (Fl.ge mv[t]! s[m / 2]! == Fl.ge mv[m - 1]! s[m / 2]!))) ∨
     ((¬ ∃ t, 1 ≤ t ∧ t < m ∧ Fl.ge mv[t - 1]! s[m / 2]! = Fl.ge mv[m - 1]! s[m / 2]!) ∧ ∀ t, t < m + 1 → al[t]! = true) := by
  obtain ⟨_, mv', dk, hmv', hq', hp, hor⟩ := h
  have e : mv' = mv := by
    apply Array.ext
    · omega
    · intro i h1 h2
      have := quo_isN (hq i (by omega)) (hq' i (by omega)) (hN i h2)
      rw [getElem!_pos mv i h2, getElem!_pos mv' i h1] at this
      exact this.symm
  subst e
  have hk := median_key hmv (by omega) hp hN hs hso hps
  have hNk := NN_perm hp.perm hN
  have hNs := NN_perm hps hN
  have hsk := hp.size
  have g : ∀ x, Fl.ge x dk[m / 2]! = Fl.ge x s[m / 2]! := fun x => ge_key (hNk _ (by omega)) (hNs _ (by omega)) hk
  simp only [g] at hor
  exact hor
end Go.Proofs.Qxb6602921a
