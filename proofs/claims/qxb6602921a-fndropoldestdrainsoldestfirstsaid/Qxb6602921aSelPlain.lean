/-
  PLAIN: two rows in order with the same values stand place by place alike; how many values lie below and at or below the one of rank k. No program in this text.
-/
import Derived.Test.Qxb6602921aMergePlain
namespace Go.Proofs.Qxb6602921a
open Go.Sort

theorem keys_eq {K : Type} (f : Nat → K) (le : K → K → Prop) (anti : ∀ a b, le a b → le b a → a = b) {n : Nat} {s t : Array Nat} (hs : s.size = n) (ht : t.size = n)
    (h1 : ∀ i j, i < j → j < n → le (f s[i]!) (f s[j]!)) (h2 : ∀ i j, i < j → j < n → le (f t[i]!) (f t[j]!)) (hp : (s.toList.map f).Perm (t.toList.map f)) : ∀ i, i < n → f s[i]! = f t[i]! := by
  have pw : ∀ (a : Array Nat), a.size = n → (∀ i j, i < j → j < n → le (f a[i]!) (f a[j]!)) → (a.toList.map f).Pairwise le := by
    intro a ha h
    rw [List.pairwise_iff_getElem]
    intro i j hi hj hij
    have hi' : i < a.size := by simpa using hi
    have hj' : j < a.size := by simpa using hj
    have g := h i j hij (by omega)
    rw [getElem!_pos a i hi', getElem!_pos a j hj'] at g
    simpa using g
  have e := List.Perm.eq_of_pairwise (fun a b _ _ => anti a b) (pw s hs h1) (pw t ht h2) hp
  intro i hi
  have g : (s.toList.map f)[i]? = (t.toList.map f)[i]? := by rw [e]
  have hi1 : i < s.size := by omega
  have hi2 : i < t.size := by omega
  rw [getElem!_pos s i hi1, getElem!_pos t i hi2]
  simpa [hi1, hi2] using g

def k3le (p q : Int × Int × Int) : Prop := ¬ Fl.k3 q p
theorem k3le_anti (p q : Int × Int × Int) (h1 : k3le p q) (h2 : k3le q p) : p = q := by
  obtain ⟨a, b, c⟩ := p
  obtain ⟨a', b', c'⟩ := q
  unfold k3le Fl.k3 at h1 h2
  dsimp only at h1 h2
  rw [Prod.mk.injEq, Prod.mk.injEq]
  omega
def k2le (p q : Int × Int) : Prop := ¬ Fl.klt q p
theorem k2le_anti (p q : Int × Int) (h1 : k2le p q) (h2 : k2le q p) : p = q := by
  obtain ⟨a, b⟩ := p
  obtain ⟨a', b'⟩ := q
  unfold k2le Fl.klt at h1 h2
  dsimp only at h1 h2
  rw [Prod.mk.injEq]
  omega

theorem bef_k3 {x y : Nat} (h : Fl.bef y x = false) : k3le (Fl.kk x) (Fl.kk y) := fun g => by rw [(Fl.bef_iff y x).2 g] at h; cases h
theorem bef_k2 {x y : Nat} (h : Fl.bef y x = false) : k2le (Fl.key x) (Fl.key y) := fun g => by
  have : Fl.k3 (Fl.kk y) (Fl.kk x) := by
    unfold Fl.klt at g
    unfold Fl.k3 Fl.kk
    dsimp only
    omega
  rw [(Fl.bef_iff y x).2 this] at h
  cases h

/-- Two rows in fBefore order with the same values are alike, place by place. -/
theorem sorted_same {n : Nat} {s t : Array Nat} (hs : s.size = n) (ht : t.size = n) (h1 : Sorted n s) (h2 : Sorted n t) (hp : s.toList.Perm t.toList) (i : Nat) (hi : i < n) : Fl.same s[i]! t[i]! = true :=
  (Fl.same_iff _ _).2 (keys_eq Fl.kk k3le k3le_anti hs ht (fun a b g1 g2 => bef_k3 (h1 a b g1 g2)) (fun a b g1 g2 => bef_k3 (h2 a b g1 g2)) (hp.map _) i hi)

/-- 'x <= y' as the walk shows it. -/
def Fl.le (x y : Nat) : Bool := Ieee.double.order x y == some .lt || Ieee.double.order x y == some .eq
theorem le_total {x y : Nat} (hx : Fl.isN x = false) (hy : Fl.isN y = false) (h : Fl.lt y x = false) : Fl.le x y = true := by
  show (Fl.lt x y || Fl.eq x y) = true
  cases h1 : Fl.lt x y with
  | true => rfl
  | false =>
    have g1 : ¬ Fl.klt (Fl.key x) (Fl.key y) := fun g => by rw [(Fl.lt_iff x y).2 ⟨hx, hy, g⟩] at h1; cases h1
    have g2 : ¬ Fl.klt (Fl.key y) (Fl.key x) := fun g => by rw [(Fl.lt_iff y x).2 ⟨hy, hx, g⟩] at h; cases h
    have e := k2le_anti _ _ g2 g1
    rw [(Fl.eq_iff x y).2 ⟨hx, hy, e⟩]
    rfl
theorem le_ge (x y : Nat) : (Ieee.double.order y x == some .gt || Ieee.double.order y x == some .eq) = Fl.le x y := by
  show (Fl.gt y x || Fl.eq y x) = (Fl.lt x y || Fl.eq x y)
  have e : Fl.eq y x = Fl.eq x y := by
    rw [Bool.eq_iff_iff, Fl.eq_iff, Fl.eq_iff]
    constructor <;> rintro ⟨a, b, c⟩ <;> exact ⟨b, a, c.symm⟩
  rw [Fl.gt_eq, e]

/-- How many of the first k values lie below g. -/
def cntL (d : Array Nat) (g k : Nat) : Nat := (d.toList.take k).countP fun x => Fl.lt x g
/-- How many of the first k values lie at or below g. -/
def cntM (d : Array Nat) (g k : Nat) : Nat := (d.toList.take k).countP fun x => Fl.le x g
theorem cntL_le (d : Array Nat) (g k : Nat) : cntL d g k ≤ k := Nat.le_trans List.countP_le_length (List.length_take_le _ _)
theorem cntM_le (d : Array Nat) (g k : Nat) : cntM d g k ≤ k := Nat.le_trans List.countP_le_length (List.length_take_le _ _)
theorem cntL_step (d : Array Nat) (g k : Nat) (h : k < d.size) : cntL d g (k + 1) = cntL d g k + if Fl.lt d[k]! g then 1 else 0 := by
  unfold cntL
  rw [take_more d k h, List.countP_append]
  simp [List.countP_cons]
theorem cntM_step (d : Array Nat) (g k : Nat) (h : k < d.size) : cntM d g (k + 1) = cntM d g k + if Fl.le d[k]! g then 1 else 0 := by
  unfold cntM
  rw [take_more d k h, List.countP_append]
  simp [List.countP_cons]

theorem rank_less {d dk : Array Nat} {n k : Nat} (hd : d.size = n) (hp : Post d n k dk) (hN : NN d) : cntL d dk[k]! n ≤ k := by
  unfold cntL
  rw [List.take_of_length_le (by simp; omega), ← hp.perm.countP_eq]
  have hs := hp.size
  have e : dk.toList = dk.toList.take k ++ dk.toList.drop k := (List.take_append_drop k _).symm
  rw [e, List.countP_append]
  have z : (dk.toList.drop k).countP (fun x => Fl.lt x dk[k]!) = 0 := by
    rw [List.countP_eq_zero]
    intro a ha
    obtain ⟨i, hi, rfl⟩ := List.getElem_of_mem ha
    have hi' : k + i < dk.size := by simp at hi; omega
    have : (dk.toList.drop k)[i] = dk[k + i]! := by rw [getElem!_pos dk (k + i) hi']; simp
    rw [this]
    by_cases c : i = 0
    · subst c; simp [Fl.lt_irrefl]
    · simp [hp.high hN (k + i) (by omega) (by omega)]
  rw [z]
  exact Nat.le_trans List.countP_le_length (List.length_take_le _ _)

theorem rank_most {d dk : Array Nat} {n k : Nat} (hd : d.size = n) (hk : k < n) (hp : Post d n k dk) (hN : NN d) : k < cntM d dk[k]! n := by
  unfold cntM
  have hs := hp.size
  have hNk := NN_perm hp.perm hN
  rw [List.take_of_length_le (by simp; omega), ← hp.perm.countP_eq]
  have e : dk.toList = dk.toList.take (k + 1) ++ dk.toList.drop (k + 1) := (List.take_append_drop _ _).symm
  rw [e, List.countP_append]
  have z : (dk.toList.take (k + 1)).countP (fun x => Fl.le x dk[k]!) = (dk.toList.take (k + 1)).length := by
    rw [List.countP_eq_length]
    intro a ha
    obtain ⟨i, hi, rfl⟩ := List.getElem_of_mem ha
    have hi' : i < k + 1 := by simp at hi; omega
    have hi2 : i < dk.size := by omega
    have : (dk.toList.take (k + 1))[i] = dk[i]! := by rw [getElem!_pos dk i hi2]; simp
    rw [this]
    refine le_total (hNk i hi2) (hNk k (by omega)) ?_
    by_cases c : i = k
    · subst c; exact Fl.lt_irrefl _
    · exact hp.low hN i (by omega)
  rw [z, List.length_take]
  simp
  omega
end Go.Proofs.Qxb6602921a
