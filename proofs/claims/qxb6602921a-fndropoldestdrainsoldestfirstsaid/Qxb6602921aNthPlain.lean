/-
  PLAIN: what each way of a round of 'nth' does to the row: the invariants of its two loops, and what they come to. No program in this text.
-/
import Derived.Test.Qxb6602921aFloat
import Derived.Sort.Lot0
namespace Go.Proofs.Qxb6602921a
open Go.Sort

theorem swp_perm (d : Array Nat) (i j : Nat) (hi : i < d.size) (hj : j < d.size) : (swp d i j).toList.Perm d.toList := by
  have e : (swp d i j).toList = (d.toList.set i d.toList[j]).set j d.toList[i] := by
    unfold swp
    rw [getElem!_pos d i hi, getElem!_pos d j hj]
    simp
  rw [e]
  exact perm_set_set d.toList i j (by simpa using hi) (by simpa using hj)

/-- What stands at each place behind an exchange. -/
theorem swp_at (d : Array Nat) (i j t : Nat) (hi : i < d.size) (hj : j < d.size) : (swp d i j)[t]! = if t = i then d[j]! else if t = j then d[i]! else d[t]! := by
  by_cases h1 : t = j
  · subst h1
    rw [swp_right d i t hj]
    by_cases h2 : t = i
    · subst h2; simp
    · simp [h2]
  · by_cases h2 : t = i
    · subst h2
      rw [swp_left d t j hi h1, if_pos rfl]
    · rw [swp_other d i j t h2 h1, if_neg h2, if_neg h1]

/-- No NaN in the row. -/
def NN (d : Array Nat) : Prop := ∀ t, t < d.size → Fl.isN d[t]! = false
theorem NN_perm {d e : Array Nat} (hp : e.toList.Perm d.toList) (h : NN d) : NN e := by
  intro t ht
  have hm : e[t]! ∈ e.toList := by rw [getElem!_pos e t ht]; exact Array.getElem_mem_toList ht
  have hm2 := hp.mem_iff.1 hm
  obtain ⟨s, hs, e2⟩ := List.getElem_of_mem hm2
  have hs' : s < d.size := by simpa using hs
  have := h s hs'
  rw [getElem!_pos d s hs'] at this
  rw [← e2]
  simpa using this

/-- 'y < x' is false: x is at most y; through a middle that is no NaN. -/
theorem lt_through {x p y : Nat} (hp : Fl.isN p = false) (h1 : Fl.lt p x = false) (h2 : Fl.lt y p = false) : Fl.lt y x = false := by
  cases h : Fl.lt y x with
  | false => rfl
  | true =>
    obtain ⟨ny, nx, hk⟩ := (Fl.lt_iff y x).1 h
    have g1 : ¬ Fl.klt (Fl.key p) (Fl.key x) := fun g => by rw [(Fl.lt_iff p x).2 ⟨hp, nx, g⟩] at h1; cases h1
    have g2 : ¬ Fl.klt (Fl.key y) (Fl.key p) := fun g => by rw [(Fl.lt_iff y p).2 ⟨ny, hp, g⟩] at h2; cases h2
    unfold Fl.klt at hk g1 g2
    omega

/-- Everything ahead of lo is at most everything from lo on; everything up to hi is at most everything behind hi. -/
structure Part (n lo hi : Nat) (dk : Array Nat) : Prop where
  low : ∀ a b, a < lo → lo ≤ b → b < n → Fl.lt dk[b]! dk[a]! = false
  high : ∀ a b, a ≤ hi → hi < b → b < n → Fl.lt dk[b]! dk[a]! = false

structure Outer (d : Array Nat) (n k lo hi : Nat) (dk : Array Nat) : Prop where
  size : dk.size = n
  perm : dk.toList.Perm d.toList
  lok : lo ≤ k
  khi : k ≤ hi
  hin : hi < n
  part : NN d → Part n lo hi dk

/-- The scan's invariant: i stands in its slot as i, j as jp - 1. -/
structure Inner (d : Array Nat) (n lo hi p i jp : Nat) (dk : Array Nat) : Prop where
  size : dk.size = n
  perm : dk.toList.Perm d.toList
  part : NN d → Part n lo hi dk
  piv : NN d → Fl.isN p = false
  lohi : lo ≤ hi
  hin : hi < n
  loi : lo ≤ i
  ih : i ≤ hi + 1
  loj : lo ≤ jp
  jh : jp ≤ hi + 1
  left : ∀ t, lo ≤ t → t < i → Fl.lt p dk[t]! = false
  right : ∀ t, jp ≤ t → t ≤ hi → Fl.lt dk[t]! p = false
  st : (i = lo ∧ jp = hi + 1 ∧ ∃ s, lo ≤ s ∧ s ≤ hi ∧ Fl.lt dk[s]! p = false ∧ Fl.lt p dk[s]! = false) ∨ (lo < i ∧ jp ≤ hi)

/-- What 'nth' leaves. -/
structure Post (d : Array Nat) (n k : Nat) (dk : Array Nat) : Prop where
  size : dk.size = n
  perm : dk.toList.Perm d.toList
  low : NN d → ∀ t, t < k → Fl.lt dk[k]! dk[t]! = false
  high : NN d → ∀ t, k < t → t < n → Fl.lt dk[t]! dk[k]! = false

variable {d : Array Nat} {n k lo hi p i jp : Nat} {dk : Array Nat}

theorem Outer.begin (hd : d.size = n) (hk : k < n) : Outer d n k 0 (n - 1) d :=
  ⟨hd, List.Perm.refl _, by omega, by omega, by omega, fun _ => ⟨fun a b h => by omega, fun a b h1 h2 h3 => by omega⟩⟩

theorem Outer.start (h : Outer d n k lo hi dk) (hlt : lo < hi) : Inner d n lo hi dk[lo + (hi - lo) / 2]! lo (hi + 1) dk := by
  refine ⟨h.size, h.perm, h.part, fun hN => NN_perm h.perm hN _ (by have := h.size; have := h.hin; omega), by omega, h.hin, by omega, by omega, by omega, by omega, fun t _ _ => by omega, fun t _ _ => by omega, .inl ⟨rfl, rfl, lo + (hi - lo) / 2, by omega, by omega, Fl.lt_irrefl _, Fl.lt_irrefl _⟩⟩

theorem Inner.up (h : Inner d n lo hi p i jp dk) (hij : i < jp) : ∃ s, i ≤ s ∧ s ≤ hi ∧ Fl.lt dk[s]! p = false := by
  rcases h.st with ⟨rfl, rfl, s, h1, h2, h3, h4⟩ | ⟨h1, h2⟩
  · exact ⟨s, h1, h2, h3⟩
  · exact ⟨jp, by omega, h2, h.right jp (Nat.le_refl _) h2⟩
theorem Inner.down (h : Inner d n lo hi p i jp dk) (hij : i < jp) : ∃ s, lo ≤ s ∧ s < jp ∧ Fl.lt p dk[s]! = false := by
  rcases h.st with ⟨rfl, rfl, s, h1, h2, h3, h4⟩ | ⟨h1, h2⟩
  · exact ⟨s, h1, by omega, h4⟩
  · exact ⟨i - 1, by omega, by omega, h.left (i - 1) (by omega) (by omega)⟩

/-- Behind the two scans, the two places exchanged. -/
theorem Inner.swap (h : Inner d n lo hi p i jp dk) {i' j' : Nat} (hi1 : i ≤ i') (hj1 : j' < jp) (hlo : lo ≤ j') (hhi : i' ≤ hi) (hup : ∀ t, i ≤ t → t < i' → Fl.lt dk[t]! p = true) (hdn : ∀ t, j' < t → t < jp → Fl.lt p dk[t]! = true)
    (su : Fl.lt dk[i']! p = false) (sd : Fl.lt p dk[j']! = false) (hle : i' ≤ j') : Inner d n lo hi p (i' + 1) j' (swp dk i' j') := by
  have hsz := h.size
  have hin := h.hin
  have hloi := h.loi
  have hjh := h.jh
  have hat := fun t => swp_at dk i' j' t (by omega) (by omega)
  refine ⟨by rw [size_swp]; exact hsz, (swp_perm dk i' j' (by omega) (by omega)).trans h.perm, fun hN => ⟨fun a b h1 h2 h3 => ?_, fun a b h1 h2 h3 => ?_⟩, h.piv, h.lohi, hin, by omega, by omega, by omega, by omega, fun t h1 h2 => ?_, fun t h1 h2 => ?_, .inr ⟨by omega, by omega⟩⟩
  · rw [hat, hat, if_neg (show ¬ a = i' by omega), if_neg (show ¬ a = j' by omega)]
    have g := (h.part hN).low a
    by_cases e1 : b = i'
    · rw [if_pos e1]; exact g j' h1 (by omega) (by omega)
    · rw [if_neg e1]
      by_cases e2 : b = j'
      · rw [if_pos e2]; exact g i' h1 (by omega) (by omega)
      · rw [if_neg e2]; exact g b h1 h2 h3
  · rw [hat b, if_neg (show ¬ b = i' by omega), if_neg (show ¬ b = j' by omega), hat]
    by_cases e1 : a = i'
    · rw [if_pos e1]; exact (h.part hN).high j' b (by omega) h2 h3
    · rw [if_neg e1]
      by_cases e2 : a = j'
      · rw [if_pos e2]; exact (h.part hN).high i' b (by omega) h2 h3
      · rw [if_neg e2]; exact (h.part hN).high a b h1 h2 h3
  · rw [hat]
    by_cases e1 : t = i'
    · rw [if_pos e1]; exact sd
    · rw [if_neg e1, if_neg (show ¬ t = j' by omega)]
      by_cases e2 : t < i
      · exact h.left t h1 e2
      · exact Fl.lt_asymm _ _ (hup t (by omega) (by omega))
  · rw [hat]
    by_cases e1 : t = i'
    · rw [if_pos e1]
      have : i' = j' := by omega
      subst this
      exact su
    · rw [if_neg e1]
      by_cases e2 : t = j'
      · rw [if_pos e2]; exact su
      · rw [if_neg e2]
        by_cases e3 : t < jp
        · exact Fl.lt_asymm _ _ (hdn t (by omega) e3)
        · exact h.right t (by omega) h2

/-- Behind the two scans, the two places having passed each other. -/
theorem Inner.pass (h : Inner d n lo hi p i jp dk) {i' j' : Nat} (hi1 : i ≤ i') (hj1 : j' < jp) (hlo : lo ≤ j') (hhi : i' ≤ hi) (hup : ∀ t, i ≤ t → t < i' → Fl.lt dk[t]! p = true) (hdn : ∀ t, j' < t → t < jp → Fl.lt p dk[t]! = true)
    (hlt : j' < i') : Inner d n lo hi p i' (j' + 1) dk := by
  have hloi := h.loi
  have hjh := h.jh
  refine ⟨h.size, h.perm, h.part, h.piv, h.lohi, h.hin, by omega, by omega, by omega, by omega, fun t h1 h2 => ?_, fun t h1 h2 => ?_, ?_⟩
  · by_cases e : t < i
    · exact h.left t h1 e
    · exact Fl.lt_asymm _ _ (hup t (by omega) h2)
  · by_cases e : t < jp
    · exact Fl.lt_asymm _ _ (hdn t (by omega) e)
    · exact h.right t (by omega) h2
  · rcases h.st with ⟨e1, e2, s, h1, h2, h3, h4⟩ | ⟨h1, h2⟩
    · exfalso
      have a1 : ¬ s < i' := fun c => by rw [hup s (by omega) c] at h3; cases h3
      have a2 : ¬ j' < s := fun c => by rw [hdn s c (by omega)] at h4; cases h4
      omega
    · exact .inr ⟨by omega, by omega⟩

theorem Inner.moved (h : Inner d n lo hi p i jp dk) (hout : jp ≤ i) : lo < i ∧ jp ≤ hi := by
  rcases h.st with ⟨e1, e2, _⟩ | h
  · have := h.lohi; omega
  · exact h

theorem Inner.toLow (h : Inner d n lo hi p i jp dk) (hout : jp ≤ i) (hlk : lo ≤ k) (hk : k < jp) : Outer d n k lo (jp - 1) dk := by
  have hm := h.moved hout
  have := h.hin
  refine ⟨h.size, h.perm, hlk, by omega, by omega, fun hN => ⟨(h.part hN).low, fun a b h1 h2 h3 => ?_⟩⟩
  by_cases e1 : a < lo
  · exact (h.part hN).low a b e1 (by omega) h3
  · by_cases e2 : hi < b
    · exact (h.part hN).high a b (by omega) e2 h3
    · exact lt_through (h.piv hN) (h.left a (by omega) (by omega)) (h.right b (by omega) (by omega))

theorem Inner.toHigh (h : Inner d n lo hi p i jp dk) (hout : jp ≤ i) (hkh : k ≤ hi) (hk : i ≤ k) : Outer d n k i hi dk := by
  have hm := h.moved hout
  refine ⟨h.size, h.perm, hk, hkh, h.hin, fun hN => ⟨fun a b h1 h2 h3 => ?_, (h.part hN).high⟩⟩
  by_cases e1 : a < lo
  · exact (h.part hN).low a b e1 (by omega) h3
  · by_cases e2 : hi < b
    · exact (h.part hN).high a b (by omega) e2 h3
    · exact lt_through (h.piv hN) (h.left a (by omega) h1) (h.right b (by omega) (by omega))

theorem Inner.toPost (h : Inner d n lo hi p i jp dk) (hlk : lo ≤ k) (hkh : k ≤ hi) (h1 : jp ≤ k) (h2 : k < i) : Post d n k dk := by
  refine ⟨h.size, h.perm, fun hN t ht => ?_, fun hN t ht htn => ?_⟩
  · by_cases e1 : t < lo
    · exact (h.part hN).low t k e1 hlk (by have := h.hin; omega)
    · exact lt_through (h.piv hN) (h.left t (by omega) (by omega)) (h.right k h1 hkh)
  · by_cases e1 : hi < t
    · exact (h.part hN).high k t hkh e1 htn
    · exact lt_through (h.piv hN) (h.left k hlk h2) (h.right t (by omega) (by omega))

theorem Outer.toPost (h : Outer d n k lo hi dk) (hge : ¬ lo < hi) : Post d n k dk := by
  have h1 := h.lok
  have h2 := h.khi
  have h3 := h.hin
  exact ⟨h.size, h.perm, fun hN t ht => (h.part hN).low t k (by omega) h1 (by omega), fun hN t ht htn => (h.part hN).high k t h2 (by omega) htn⟩

end Go.Proofs.Qxb6602921a
