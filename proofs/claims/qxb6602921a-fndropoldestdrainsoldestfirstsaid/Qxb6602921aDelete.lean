/-
  The walk of slices.Delete at []float64 (function 39), one element taken out: after the kit's own walk of that function over any program (the shelf's text for slices.Delete), turned to this one.
-/
import Derived.Test.Qxb6602921aNth
import Derived.OwnWalk
import Derived.Deep.RegionLaw
import Derived.Lib.SliceRun
import Derived.Lib.SlicesDelete
namespace Go.Proofs.Qxb6602921a
open Go.RowKit Go.Sort Go.Lib

/-- The row with its element i taken out, and a zero behind. -/
def delZ (d : Array Nat) (i : Nat) : Array Nat := (d.toList.take i ++ d.toList.drop (i + 1) ++ List.replicate 1 0).toArray

theorem enc_one (x : Nat) : (enc x).oneCell' = true := rfl
theorem enc_cells (x : Nat) : (enc x).cells = #[enc x] := rfl

set_option maxHeartbeats 4000000 in
set_option maxRecDepth 1000000 in
theorem delete_any (blk off n cap i : Nat) (d : Array Nat) (w : World) (hd : d.size = n) (hH : Holds enc w blk off d) (hcap : n ≤ cap) (_hm : cap ≤ 9223372036854775807) (hi : i < n) :
    Calls Try.prog 39 #[.slice (some ⟨blk, off, none⟩) n cap, .int .i64 i, .int .i64 ((i : Int) + 1)] w fun e w' => e = .returned (.slice (some ⟨blk, off, none⟩) (n - 1) cap) ∧ ∃ q, w' = (putRow enc w blk off (delZ d i)).drewN q := by
  subst hd
  obtain ⟨i0, hi0, hz0, hz1, hz2⟩ := info_parts Try.info25
  obtain ⟨j, hj⟩ : ∃ j, i + 1 = j := ⟨_, rfl⟩
  have hji : (i : Int) + 1 = (j : Int) := by omega
  rw [hji]
  have hlt : i < j := by omega
  have hj2 : j ≤ d.size := by omega
  have HJ : Hid (i + 1 = j) := hj
  clear hj hji
  -- the cells that are moved to the left
  obtain ⟨news, hnews⟩ : ∃ news, news = (d.toList.drop j).map enc := ⟨_, rfl⟩
  have hlen : news.length = d.size - j := by rw [hnews]; simp
  have hget : ∀ t, t < d.size - j → news[t]? = some (enc d[j + t]!) := by
    intro t ht
    rw [hnews, List.getElem?_map, List.getElem?_drop, Array.getElem?_toList, getElem!_pos d (j + t) (by omega), Array.getElem?_eq_getElem (by omega)]
    rfl
  obtain ⟨A, hA, hsrc⟩ : ∃ A : Addr, (if cap = j then some (⟨blk, off, none⟩ : Addr) else some ⟨blk, off + j, none⟩) = some A ∧ Hid (∀ t u, news[t]? = some u → w.drew.cell? (A.add t) = some u) := by
    by_cases h : cap = j
    · refine ⟨⟨blk, off, none⟩, by simp [h], fun t u hu => ?_⟩
      have h0 : news.length = 0 := by rw [hlen]; omega
      rw [List.length_eq_zero_iff.1 h0] at hu
      simp at hu
    · refine ⟨⟨blk, off + j, none⟩, by simp [h], fun t u hu => ?_⟩
      have ht : t < d.size - j := by
        have := (List.getElem?_eq_some_iff.1 hu).1
        rwa [hlen] at this
      rw [hget t ht] at hu
      rw [Addr.add_lit, show off + j + t = off + (j + t) by omega]
      exact (hH (j + t) (by omega)).1.trans hu
  have s1 : Hid (news.length = (d.size - j) * 1) := by rw [Nat.mul_one]; exact hlen
  have s2 : Hid (∀ u ∈ news, u.oneCell' = true) := by
    intro u hu
    rw [hnews] at hu
    obtain ⟨x, _, rfl⟩ := List.mem_map.1 hu
    exact enc_one x
  have s3 : Hid (∀ t, t < news.length → (w.drew.cell? ⟨blk, off + i * 1 + t, none⟩).isSome = true ∧ w.drew.frozen? ⟨blk, off + i * 1 + t, none⟩ = false) := by
    intro t ht
    rw [hlen] at ht
    rw [Nat.mul_one, Nat.add_assoc]
    exact ⟨by show (w.cell? _).isSome = true; rw [(hH (i + t) (by omega)).1]; rfl, (hH (i + t) (by omega)).2⟩
  -- the world behind the append, behind a name
  obtain ⟨W1, hW1⟩ : ∃ W1, W1 = w.drew.setCells blk (off + i * 1) news := ⟨_, rfl⟩
  have hW1' : W1 = putRow enc (Sort.ahead w 1) blk off (lay d i (d.toList.drop j)) := by
    rw [hW1, hnews, Nat.mul_one, ← putRow_setCells enc (Sort.ahead w 1) blk off _ d i (by simp; omega), putRow_self enc (Sort.ahead w 1) blk off d (holds_ahead enc w 1 blk off d hH)]
    rfl
  have hH1 : Holds enc W1 blk off (lay d i (d.toList.drop j)) := by rw [hW1']; exact holds_putRow enc _ blk off d _ (holds_ahead enc w 1 blk off d hH) (lay_size _ _ _)
  have hcl : ∀ ty, (Builtin.clear_ #[22] ty #[.slice (some ⟨blk, off + (i + (d.size - j)), none⟩) (d.size - (i + (d.size - j))) (cap - (i + (d.size - j)))]).run Try.prog W1 = .ok (.tuple #[]) (W1.setCells blk (off + (i + (d.size - j))) (List.replicate (d.size - (i + (d.size - j))) (enc 0))) :=
    fun ty => Lib.run_clear_slice W1 _ _ ty _ Try.underlying22 Try.zeroValue25 (enc_cells 0) (enc_one 0) blk (off + (i + (d.size - j))) _ _ (by omega) (fun t ht => by rw [show off + (i + (d.size - j)) + t = off + (i + (d.size - j) + t) by omega, (hH1 _ (by rw [lay_size]; omega)).1]; rfl) (fun t ht => by rw [show off + (i + (d.size - j)) + t = off + (i + (d.size - j) + t) by omega]; exact (hH1 _ (by rw [lay_size]; omega)).2)
  have X : Aside (W1 = putRow enc (Sort.ahead w 1) blk off (lay d i (d.toList.drop j))) := hW1'
  have hW : Hid (W1 = w.drew.setCells blk (off + i * 1) news) := hW1
  have hic : i ≤ cap := by omega
  have hjc : j ≤ cap := by omega
  clear hW1 hW1' hH1 hH hget hnews hlen
  go_enter Try.func39, Try.ntmps39
  go_wp2_with fail
  go_region_law (refine step_append_room rfl (.tmp 22) (.tmp 25) 22 rfl 25 i0 1 Try.underlying22 hi0 hz1 blk off i cap (by simp [Act.eval, Act.put]) A (d.size - j) (cap - j) news (by simp [Act.eval, Act.put]) s1.out hsrc.out s2.out (by omega) s3.out ?_; rw [← hW.out])
  go_wp2
  go_ret
  refine ⟨by rw [show d.size - 1 = i + (d.size - j) by have := HJ.out; omega]; rfl, 1, ?_⟩
  have e1 := delete_arr d i j 0 (Nat.le_of_lt hlt) hj2
  have e2 : delZ d i = (d.toList.take i ++ d.toList.drop j ++ List.replicate (j - i) 0).toArray := by
    unfold delZ
    rw [HJ.out, show j - i = 1 by have := HJ.out; omega]
  rw [e2, ← e1]
  have e3 := putRow_setCells enc (Sort.ahead w 1) blk off (List.replicate (j - i) 0) (lay d i (d.toList.drop j)) (i + (d.size - j)) (by rw [lay_size]; simp; omega)
  rw [← X.out, List.map_replicate] at e3
  rw [show d.size - (i + (d.size - j)) = j - i by omega]
  exact e3
end Go.Proofs.Qxb6602921a
