/-
  PLAIN: a row in ascending order that holds a queue's values (by key), the first place that is not below a value, the row without that place. No program in this text.
-/
import Derived.Test.Qxb6602921aSelPlain
namespace Go.Proofs.Qxb6602921a
open Go.Sort

/-- s holds q's values in ascending order, each taken by its key. -/
structure View (n : Nat) (s q : Array Nat) : Prop where
  ss : s.size = n
  sq : q.size = n
  asc : ∀ i j, i < j → j < n → k2le (Fl.key s[i]!) (Fl.key s[j]!)
  perm : (s.toList.map Fl.key).Perm (q.toList.map Fl.key)

/-- cmp.Less. -/
def Fl.cml (x y : Nat) : Bool := Fl.isN x && !Fl.isN y || Fl.lt x y
theorem Fl.cml_iff (x y : Nat) : Fl.cml x y = true ↔ Fl.klt (Fl.key x) (Fl.key y) := by
  unfold Fl.cml
  cases hx : Fl.isN x with
  | true =>
    have kx := Fl.key_nan x hx
    have hl : Fl.lt x y = false := by
      cases e : Fl.lt x y with
      | false => rfl
      | true => have := ((Fl.lt_iff x y).1 e).1; rw [hx] at this; cases this
    cases hy : Fl.isN y with
    | true =>
      have ky := Fl.key_nan y hy
      rw [hl, kx, ky]
      simp [Fl.klt]
    | false =>
      have ky := Fl.key_num y hy
      rw [kx]
      simp [Fl.klt, ky]
  | false =>
    have kx := Fl.key_num x hx
    cases hy : Fl.isN y with
    | true =>
      have ky := Fl.key_nan y hy
      have hl : Fl.lt x y = false := by
        cases e : Fl.lt x y with
        | false => rfl
        | true => have := ((Fl.lt_iff x y).1 e).2.1; rw [hy] at this; cases this
      rw [hl, ky]
      simp [Fl.klt]
      omega
    | false =>
      simp [Fl.lt_iff, hx, hy]

/-- i is the first place of s, of n places, whose value is not below x. -/
structure Srch (s : Array Nat) (x n i : Nat) : Prop where
  le : i ≤ n
  low : ∀ t, t < i → Fl.cml s[t]! x = true
  high : ∀ t, i ≤ t → t < n → Fl.cml s[t]! x = false

theorem k2le_trans {a b c : Int × Int} (h1 : k2le a b) (h2 : k2le b c) : k2le a c := by
  unfold k2le Fl.klt at *
  omega
theorem cml_low {a b x : Nat} (h : k2le (Fl.key a) (Fl.key b)) (hb : Fl.cml b x = true) : Fl.cml a x = true := by
  rw [Fl.cml_iff] at *
  unfold k2le Fl.klt at *
  omega
theorem cml_high {a b x : Nat} (h : k2le (Fl.key a) (Fl.key b)) (ha : Fl.cml a x = false) : Fl.cml b x = false := by
  cases e : Fl.cml b x with
  | false => rfl
  | true => rw [cml_low h e] at ha; cases ha

/-- The oldest value's place in the view. -/
theorem View.found {n i : Nat} {s q : Array Nat} (h : View n s q) (hn : 0 < n) (hi : Srch s q[0]! n i) : i < n ∧ Fl.key s[i]! = Fl.key q[0]! := by
  have hq0 : 0 < q.size := by rw [h.sq]; exact hn
  have m1 : Fl.key q[0]! ∈ q.toList.map Fl.key := by
    rw [getElem!_pos q 0 hq0]
    exact List.mem_map.2 ⟨q[0], by simp, rfl⟩
  have m2 := (h.perm.mem_iff).2 m1
  obtain ⟨y, hy, hk⟩ := List.mem_map.1 m2
  obtain ⟨t, ht, rfl⟩ := List.getElem_of_mem hy
  have ht' : t < s.size := by simpa using ht
  have htn : t < n := by rw [← h.ss]; exact ht'
  have e : s.toList[t] = s[t]! := by rw [getElem!_pos s t ht']; simp
  rw [e] at hk
  have hf : Fl.cml s[t]! q[0]! = false := by
    cases e : Fl.cml s[t]! q[0]! with
    | false => rfl
    | true =>
      have := (Fl.cml_iff _ _).1 e
      rw [hk] at this
      unfold Fl.klt at this
      omega
  have hit : i ≤ t := by
    rcases Nat.lt_or_ge t i with g | g
    · rw [hi.low t g] at hf; cases hf
    · exact g
  have hin : i < n := by omega
  refine ⟨hin, ?_⟩
  rcases Nat.eq_or_lt_of_le hit with g | g
  · rw [g]; exact hk
  · have a1 := h.asc i t g htn
    rw [hk] at a1
    have a2 : k2le (Fl.key q[0]!) (Fl.key s[i]!) := fun g2 => by
      have := hi.high i (Nat.le_refl _) hin
      rw [(Fl.cml_iff _ _).2 g2] at this
      cases this
    exact k2le_anti _ _ a1 a2

/-- The row without its place i. -/
def delV (s : Array Nat) (i : Nat) : Array Nat := (s.toList.take i ++ s.toList.drop (i + 1)).toArray
/-- The row without its first place. -/
def tl (q : Array Nat) : Array Nat := (q.toList.drop 1).toArray

theorem delV_size {s : Array Nat} {n i : Nat} (hs : s.size = n) (hi : i < n) : (delV s i).size = n - 1 := by
  unfold delV
  simp
  omega
theorem tl_size {q : Array Nat} {n : Nat} (hq : q.size = n) : (tl q).size = n - 1 := by
  unfold tl
  simp
  omega
theorem tl_get {q : Array Nat} {n : Nat} (hq : q.size = n) (t : Nat) (ht : t < n - 1) : (tl q)[t]! = q[t + 1]! := by
  have h1 : t < (tl q).size := by rw [tl_size hq]; exact ht
  have h2 : t + 1 < q.size := by omega
  rw [getElem!_pos _ t h1, getElem!_pos q (t + 1) h2]
  unfold tl
  simp
theorem delV_get {s : Array Nat} {n i : Nat} (hs : s.size = n) (hi : i < n) (t : Nat) (_ht : t < n - 1) : (delV s i)[t]! = if t < i then s[t]! else s[t + 1]! := by
  have key : (delV s i)[t]? = if t < i then s[t]? else s[t + 1]? := by
    unfold delV
    rw [List.getElem?_toArray, List.getElem?_append]
    by_cases c : t < i
    · rw [if_pos c, if_pos (by simp; omega), List.getElem?_take, if_pos c]
      simp
    · rw [if_neg c, if_neg (by simp; omega), List.getElem?_drop]
      have e : i + 1 + (t - (s.toList.take i).length) = t + 1 := by simp; omega
      rw [e]
      simp
  rw [getElem!_def, key]
  by_cases c : t < i
  · rw [if_pos c, if_pos c, getElem!_def]
  · rw [if_neg c, if_neg c, getElem!_def]

/-- The view without the oldest value is the view of the rest. -/
theorem View.drop {n i : Nat} {s q : Array Nat} (h : View n s q) (hi : i < n) (hk : Fl.key s[i]! = Fl.key q[0]!) : View (n - 1) (delV s i) (tl q) := by
  refine ⟨delV_size h.ss hi, tl_size h.sq, fun a b hab hb => ?_, ?_⟩
  · rw [delV_get h.ss hi a (by omega), delV_get h.ss hi b hb]
    by_cases c1 : a < i
    · by_cases c2 : b < i
      · rw [if_pos c1, if_pos c2]; exact h.asc a b hab (by omega)
      · rw [if_pos c1, if_neg c2]; exact h.asc a (b + 1) (by omega) (by omega)
    · rw [if_neg c1, if_neg (by omega)]; exact h.asc (a + 1) (b + 1) (by omega) (by omega)
  · have hi' : i < s.toList.length := by simp [h.ss, hi]
    have e1 : s.toList = s.toList.take i ++ s.toList[i] :: s.toList.drop (i + 1) := by
      rw [← List.drop_eq_getElem_cons hi']
      exact (List.take_append_drop _ _).symm
    have hsi : s.toList[i] = s[i]! := by rw [getElem!_pos s i (by rw [h.ss]; exact hi)]; simp
    have hq0 : 0 < q.size := by rw [h.sq]; omega
    have e2 : q.toList = q[0]! :: q.toList.drop 1 := by
      rw [getElem!_pos q 0 hq0]
      have : 0 < q.toList.length := by simpa using hq0
      have e := List.drop_eq_getElem_cons this
      simpa using e
    have hp := h.perm
    rw [e1, hsi] at hp
    have p1 : (s[i]! :: (s.toList.take i ++ s.toList.drop (i + 1))).Perm (s.toList.take i ++ s[i]! :: s.toList.drop (i + 1)) := List.perm_middle.symm
    have p2 := (p1.map Fl.key).trans hp
    rw [e2] at p2
    simp only [List.map_cons] at p2
    rw [hk] at p2
    have p3 := (List.perm_cons _).1 p2
    unfold delV tl
    simpa using p3

/-- The view stands place by place with a sorted copy. -/
theorem View.ceq {n : Nat} {s q t : Array Nat} (h : View n s q) (ht : t.size = n) (hs : Sorted n t) (hp : t.toList.Perm q.toList) (i : Nat) (hi : i < n) : Fl.ceq s[i]! t[i]! = true :=
  (Fl.ceq_iff _ _).2 (keys_eq Fl.key k2le k2le_anti h.ss ht h.asc (fun a b g1 g2 => bef_k2 (hs a b g1 g2)) (h.perm.trans (hp.symm.map _)) i hi)
theorem view_of {n : Nat} {s q t : Array Nat} (hs : s.size = n) (hq : q.size = n) (ht : t.size = n) (hst : Sorted n t) (hp : t.toList.Perm q.toList) (h : ∀ i, i < n → Fl.ceq s[i]! t[i]! = true) : View n s q := by
  have hk : ∀ i, i < n → Fl.key s[i]! = Fl.key t[i]! := fun i hi => (Fl.ceq_iff _ _).1 (h i hi)
  refine ⟨hs, hq, fun a b g1 g2 => ?_, ?_⟩
  · rw [hk a (by omega), hk b g2]
    exact bef_k2 (hst a b g1 g2)
  · have e : s.toList.map Fl.key = t.toList.map Fl.key := by
      apply List.ext_getElem (by simp [hs, ht])
      intro i h1 h2
      have h1' : i < s.size := by simpa using h1
      have h2' : i < t.size := by simpa using h2
      have g := hk i (by omega)
      rw [getElem!_pos s i h1', getElem!_pos t i h2'] at g
      simpa using g
    rw [e]
    exact hp.map _
theorem view_zero {s q : Array Nat} (hs : s.size = 0) (hq : q.size = 0) : View 0 s q := by
  refine ⟨hs, hq, fun a b _ h => by omega, ?_⟩
  rw [Array.size_eq_zero_iff] at hs hq
  rw [hs, hq]
end Go.Proofs.Qxb6602921a
