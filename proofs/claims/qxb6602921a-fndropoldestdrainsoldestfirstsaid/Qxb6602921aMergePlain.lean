/-
  PLAIN: the merge sort's three loops, as invariants on the two rows. No program in this text.
-/
import Derived.Test.Qxb6602921aSortPlain
namespace Go.Proofs.Qxb6602921a
open Go.Sort

theorem set_at (d : Array Nat) (k x t : Nat) (hk : k < d.size) : (d.setIfInBounds k x)[t]! = if t = k then x else d[t]! := by
  by_cases h : t = k
  · subst h
    rw [if_pos rfl, getElem!_pos _ t (by simpa using hk), Array.getElem_setIfInBounds, if_pos rfl]
    exact hk
  · rw [if_neg h]
    by_cases ht : t < d.size
    · rw [getElem!_pos _ t (by simpa using ht), getElem!_pos d t ht, Array.getElem_setIfInBounds, if_neg (Ne.symm h)]
    · rw [getElem!_neg _ t (by simpa using ht), getElem!_neg d t ht]

theorem take_set (d : Array Nat) (k x : Nat) (hk : k < d.size) : (d.setIfInBounds k x).toList.take (k + 1) = d.toList.take k ++ [x] := by
  have e : (d.setIfInBounds k x).toList = d.toList.set k x := by simp
  rw [e, List.take_succ_eq_append_getElem (by simpa using hk)]
  simp only [List.getElem_set_self]
  rw [List.take_set_of_le (Nat.le_refl _)]

theorem take_more (d : Array Nat) (i : Nat) (h : i < d.size) : d.toList.take (i + 1) = d.toList.take i ++ [d[i]!] := by
  rw [List.take_succ_eq_append_getElem (by simpa using h), getElem!_pos d i h]
  simp
theorem drop_take_more (d : Array Nat) (m c : Nat) (h : m + c < d.size) : (d.toList.drop m).take (c + 1) = (d.toList.drop m).take c ++ [d[m + c]!] := by
  rw [List.take_succ_eq_append_getElem (by simp; omega), getElem!_pos d (m + c) h]
  simp

/-- Each run of W places is in order. -/
def Runs (n W : Nat) (da : Array Nat) : Prop := ∀ r i j, r * W ≤ i → i < j → j < r * W + W → j < n → Fl.bef da[j]! da[i]! = false

/-- The merge of [lo, mid) and [mid, hi) of da into db, i and j on their way; the next place to be filled is i + j - mid. -/
structure Mrg (da db0 : Array Nat) (n lo mid hi i j : Nat) (db : Array Nat) : Prop where
  sa : da.size = n
  sb : db.size = n
  lm : lo ≤ mid
  mh : mid ≤ hi
  hn : hi ≤ n
  li : lo ≤ i
  im : i ≤ mid
  mj : mid ≤ j
  jh : j ≤ hi
  left : ∀ s t, lo ≤ s → s < t → t < mid → Fl.bef da[t]! da[s]! = false
  right : ∀ s t, mid ≤ s → s < t → t < hi → Fl.bef da[t]! da[s]! = false
  perm : (db.toList.take (i + j - mid)).Perm (da.toList.take i ++ (da.toList.drop mid).take (j - mid))
  sorted : ∀ s t, lo ≤ s → s < t → t < i + j - mid → Fl.bef db[t]! db[s]! = false
  restL : ∀ t s, lo ≤ t → t < i + j - mid → i ≤ s → s < mid → Fl.bef da[s]! db[t]! = false
  restR : ∀ t s, lo ≤ t → t < i + j - mid → j ≤ s → s < hi → Fl.bef da[s]! db[t]! = false
  pre : ∀ t, t < lo → db[t]! = db0[t]!

variable {da db0 db : Array Nat} {n lo mid hi i j W : Nat}

theorem Mrg.takeL (h : Mrg da db0 n lo mid hi i j db) (hi' : i < mid) (hc : j = hi ∨ Fl.bef da[j]! da[i]! = false) : Mrg da db0 n lo mid hi (i + 1) j (db.setIfInBounds (i + j - mid) da[i]!) := by
  have sa := h.sa; have sb := h.sb; have lm := h.lm; have mh := h.mh; have hn := h.hn; have li := h.li; have mj := h.mj; have jh := h.jh
  have hk : i + j - mid < db.size := by omega
  have ek : i + 1 + j - mid = i + j - mid + 1 := by omega
  have hat := fun t => set_at db (i + j - mid) da[i]! t hk
  refine ⟨sa, by simpa using sb, lm, mh, hn, by omega, by omega, mj, jh, h.left, h.right, ?_, fun s t h1 h2 h3 => ?_, fun t s h1 h2 h3 h4 => ?_, fun t s h1 h2 h3 h4 => ?_, fun t ht => ?_⟩
  · rw [ek, take_set db _ _ hk, take_more da i (by omega)]
    refine (h.perm.append_right [da[i]!]).trans ?_
    rw [List.append_assoc, List.append_assoc]
    exact List.Perm.append_left _ List.perm_append_comm
  · rw [hat, hat]
    by_cases e : t = i + j - mid
    · rw [if_pos e, if_neg (by omega)]
      exact h.restL s i h1 (by omega) (Nat.le_refl _) hi'
    · rw [if_neg e, if_neg (by omega)]
      exact h.sorted s t h1 h2 (by omega)
  · rw [hat]
    by_cases e : t = i + j - mid
    · rw [if_pos e]
      exact h.left i s li (by omega) h4
    · rw [if_neg e]
      exact h.restL t s h1 (by omega) (by omega) h4
  · rw [hat]
    by_cases e : t = i + j - mid
    · rw [if_pos e]
      rcases hc with hc | hc
      · omega
      · by_cases e2 : s = j
        · rw [e2]; exact hc
        · exact Fl.bef_trans hc (h.right j s mj (by omega) h4)
    · rw [if_neg e]
      exact h.restR t s h1 (by omega) h3 h4
  · rw [hat, if_neg (by omega)]; exact h.pre t ht

theorem Mrg.takeR (h : Mrg da db0 n lo mid hi i j db) (hj' : j < hi) (hc : i = mid ∨ Fl.bef da[j]! da[i]! = true) : Mrg da db0 n lo mid hi i (j + 1) (db.setIfInBounds (i + j - mid) da[j]!) := by
  have sa := h.sa; have sb := h.sb; have lm := h.lm; have mh := h.mh; have hn := h.hn; have li := h.li; have mj := h.mj; have im := h.im
  have hk : i + j - mid < db.size := by omega
  have ek : i + (j + 1) - mid = i + j - mid + 1 := by omega
  have hat := fun t => set_at db (i + j - mid) da[j]! t hk
  refine ⟨sa, by simpa using sb, lm, mh, hn, li, im, by omega, by omega, h.left, h.right, ?_, fun s t h1 h2 h3 => ?_, fun t s h1 h2 h3 h4 => ?_, fun t s h1 h2 h3 h4 => ?_, fun t ht => ?_⟩
  · rw [ek, take_set db _ _ hk, show j + 1 - mid = (j - mid) + 1 by omega, drop_take_more da mid (j - mid) (by omega), show mid + (j - mid) = j by omega, ← List.append_assoc]
    exact h.perm.append_right [da[j]!]
  · rw [hat, hat]
    by_cases e : t = i + j - mid
    · rw [if_pos e, if_neg (by omega)]
      exact h.restR s j h1 (by omega) (Nat.le_refl _) hj'
    · rw [if_neg e, if_neg (by omega)]
      exact h.sorted s t h1 h2 (by omega)
  · rw [hat]
    by_cases e : t = i + j - mid
    · rw [if_pos e]
      rcases hc with hc | hc
      · omega
      · by_cases e2 : s = i
        · rw [e2]; exact Fl.bef_asymm hc
        · exact Fl.bef_trans (Fl.bef_asymm hc) (h.left i s li (by omega) h4)
    · rw [if_neg e]
      exact h.restL t s h1 (by omega) h3 h4
  · rw [hat]
    by_cases e : t = i + j - mid
    · rw [if_pos e]
      exact h.right j s mj (by omega) h4
    · rw [if_neg e]
      exact h.restR t s h1 (by omega) (by omega) h4
  · rw [hat, if_neg (by omega)]; exact h.pre t ht

/-- The chunks of 2 W places ahead of lo are merged. -/
structure Chunk (da : Array Nat) (n W lo : Nat) (db : Array Nat) : Prop where
  sa : da.size = n
  sb : db.size = n
  mult : ∃ r, lo = r * (2 * W)
  perm : (db.toList.take lo).Perm (da.toList.take lo)
  runs : ∀ r i j, r * (2 * W) ≤ i → i < j → j < r * (2 * W) + 2 * W → j < lo → j < n → Fl.bef db[j]! db[i]! = false

theorem Chunk.begin (ha : da.size = n) (hb : db.size = n) : Chunk da n W 0 db := ⟨ha, hb, ⟨0, by omega⟩, by simp, fun r i j _ _ _ h => by omega⟩

theorem Chunk.toMrg (h : Chunk da n W lo db) (hr : Runs n W da) (hlt : lo < n) (hW : 1 ≤ W) : Mrg da db n lo (min (lo + W) n) (min (lo + 2 * W) n) lo (min (lo + W) n) db := by
  obtain ⟨r, hm⟩ := h.mult
  have e1 : 2 * r * W = lo := by rw [hm, Nat.mul_comm 2 r, Nat.mul_assoc]
  have e2 : (2 * r + 1) * W = lo + W := by rw [Nat.add_mul, e1, Nat.one_mul]
  have ek : lo + min (lo + W) n - min (lo + W) n = lo := by omega
  refine ⟨h.sa, h.sb, by omega, by omega, by omega, by omega, by omega, by omega, by omega, fun s t h1 h2 h3 => ?_, fun s t h1 h2 h3 => ?_, ?_, fun s t h1 h2 h3 => by omega, fun t s h1 h2 => by omega, fun t s h1 h2 => by omega, fun t ht => rfl⟩
  · exact hr (2 * r) s t (by omega) h2 (by omega) (by omega)
  · exact hr (2 * r + 1) s t (by omega) h2 (by omega) (by omega)
  · rw [ek]
    simpa using h.perm

theorem Mrg.done (h : Mrg da db0 n lo (min (lo + W) n) (min (lo + 2 * W) n) i j db) (hc : Chunk da n W lo db0) (hout : ¬ i + j - min (lo + W) n < min (lo + 2 * W) n) (hlt : lo < n) : Chunk da n W (lo + 2 * W) db := by
  have im := h.im; have mj := h.mj; have jh := h.jh; have hn := h.hn; have mh := h.mh
  have ei : i = min (lo + W) n := by omega
  have ej : j = min (lo + 2 * W) n := by omega
  have ek : i + j - min (lo + W) n = min (lo + 2 * W) n := by omega
  obtain ⟨r0, hm⟩ := hc.mult
  have hp := h.perm
  rw [ek] at hp
  have sa := h.sa
  have sb := h.sb
  refine ⟨sa, sb, ⟨r0 + 1, by rw [Nat.add_mul, ← hm, Nat.one_mul]⟩, ?_, fun r a b h1 h2 h3 h4 h5 => ?_⟩
  · have ta : da.toList.take (lo + 2 * W) = da.toList.take (min (lo + W) n) ++ (da.toList.drop (min (lo + W) n)).take (min (lo + 2 * W) n - min (lo + W) n) := by
      rw [← List.take_add, show min (lo + W) n + (min (lo + 2 * W) n - min (lo + W) n) = min (lo + 2 * W) n by omega]
      rcases Nat.lt_or_ge n (lo + 2 * W) with c | c
      · rw [Nat.min_eq_right (by omega), List.take_of_length_le (by simp; omega), List.take_of_length_le (by simp; omega)]
      · rw [Nat.min_eq_left c]
    have tb : db.toList.take (lo + 2 * W) = db.toList.take (min (lo + 2 * W) n) := by
      rcases Nat.lt_or_ge n (lo + 2 * W) with c | c
      · rw [Nat.min_eq_right (by omega), List.take_of_length_le (by simp; omega), List.take_of_length_le (by simp; omega)]
      · rw [Nat.min_eq_left c]
    rw [ta, tb, ← ei, ← ej]
    rw [← ei] at hp
    rw [← ej] at hp
    exact hp
  · by_cases c : b < lo
    · rw [h.pre b c, h.pre a (by omega)]
      exact hc.runs r a b h1 h2 h3 c h5
    · -- the chunk of b is this one
      have c2 : lo ≤ a := by
        rcases Nat.lt_or_ge r r0 with g | g
        · exfalso
          have : (r + 1) * (2 * W) ≤ r0 * (2 * W) := Nat.mul_le_mul_right _ g
          rw [Nat.add_mul, Nat.one_mul, ← hm] at this
          omega
        · have : r0 * (2 * W) ≤ r * (2 * W) := Nat.mul_le_mul_right _ g
          omega
      exact h.sorted a b c2 h2 (by omega)

theorem Chunk.finish (h : Chunk da n W lo db) (hge : ¬ lo < n) : Runs n (2 * W) db ∧ db.toList.Perm da.toList := by
  have sa := h.sa; have sb := h.sb
  refine ⟨fun r a b h1 h2 h3 h4 => h.runs r a b h1 h2 h3 (by omega) h4, ?_⟩
  have hp := h.perm
  rwa [List.take_of_length_le (by simp; omega), List.take_of_length_le (by simp; omega)] at hp

theorem runs_one (n : Nat) (da : Array Nat) : Runs n 1 da := fun r i j h1 h2 h3 _ => by omega
/-- In order, first to last. -/
def Sorted (n : Nat) (s : Array Nat) : Prop := ∀ i j, i < j → j < n → Fl.bef s[j]! s[i]! = false
theorem runs_all (h : Runs n W da) (hge : ¬ W < n) : Sorted n da := fun i j h1 h2 => h 0 i j (by omega) h1 (by omega) h2
end Go.Proofs.Qxb6602921a
