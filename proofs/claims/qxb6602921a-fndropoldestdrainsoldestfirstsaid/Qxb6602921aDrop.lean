/-
  The walks of the queue's functions: ZZNewSortedQueue (25), the three readers (27, 28, 29), dropOldest (36) and ZZDropOldest (26).
-/
import Derived.Test.Qxb6602921aSearch
import Derived.Test.Qxb6602921aDelete
namespace Go.Proofs.Qxb6602921a
open Go.RowKit Go.Sort

theorem newq_any (a1 a2 : Option Addr) (n1 c1 n2 c2 : Nat) (b : Bool) (w : World) :
    Calls Try.prog 25 #[.slice a1 n1 c1, .slice a2 n2 c2, .bool b] w fun e w' => e = .returned (.pointer (some ⟨w.heap.size, 0, none⟩)) ∧ w' = w.alloc (.cells #[.slice a1 n1 c1, .slice a2 n2 c2, .bool b] 42) := by
  go_enter Try.func25, Try.ntmps25
  go_wp2
  go_ret
  exact ⟨rfl, rfl⟩

theorem queueOf_any (p : Nat) (a : Option Addr) (n c : Nat) (w : World) (h : w.cell? ⟨p, 0, none⟩ = some (.slice a n c)) :
    Calls Try.prog 27 #[.pointer (some ⟨p, 0, none⟩)] w fun e w' => e = .returned (.slice a n c) ∧ w = w' := by
  go_enter Try.func27, Try.ntmps27
  go_wp2
  go_ret
  exact ⟨rfl, rfl⟩
theorem sortedOf_any (p : Nat) (a : Option Addr) (n c : Nat) (w : World) (h : w.cell? ⟨p, 1, none⟩ = some (.slice a n c)) :
    Calls Try.prog 28 #[.pointer (some ⟨p, 0, none⟩)] w fun e w' => e = .returned (.slice a n c) ∧ w = w' := by
  go_enter Try.func28, Try.ntmps28
  go_wp2
  go_ret
  exact ⟨rfl, rfl⟩
theorem askedOf_any (p : Nat) (b : Bool) (w : World) (h : w.cell? ⟨p, 2, none⟩ = some (.bool b)) :
    Calls Try.prog 29 #[.pointer (some ⟨p, 0, none⟩)] w fun e w' => e = .returned (.bool b) ∧ w = w' := by
  go_enter Try.func29, Try.ntmps29
  go_wp2
  go_ret
  exact ⟨rfl, rfl⟩

/-- q.queue behind a drop: what '[1:]' leaves of it. -/
def rest (Q oq m c : Nat) : Value := .slice (some ⟨Q, if c = 1 then oq else oq + 1, none⟩) (m - 1) (c - 1)

set_option maxRecDepth 100000 in
set_option maxHeartbeats 2000000 in
theorem drop_nil (p Q oq m c x : Nat) (w : World) (hm : 0 < m) (hmc : m ≤ c) (hc : c ≤ 1048576) (h0 : w.cell? ⟨p, 0, none⟩ = some (.slice (some ⟨Q, oq, none⟩) m c)) (f0 : w.frozen? ⟨p, 0, none⟩ = false) (h1 : w.cell? ⟨p, 1, none⟩ = some (.slice none 0 0)) (hx : w.cell? ⟨Q, oq, none⟩ = some (.float .f64 x)) :
    Calls Try.prog 36 #[.pointer (some ⟨p, 0, none⟩)] w fun e w' => e = .returned (.tuple #[]) ∧ w' = w.setCell ⟨p, 0, none⟩ (rest Q oq m c) := by
  have hnil := fun w a n c => Lib.run_eql_slice_nil (P := Try.prog) w 22 25 a n c 0 0 Try.underlying22
  go_enter Try.func36, Try.ntmps36
  go_wp2
  · go_end0
    subst h
    exact ⟨rfl, by simp [rest]⟩
  · go_end0
    exact ⟨rfl, by simp [rest, h]⟩

set_option maxRecDepth 100000 in
set_option maxHeartbeats 2000000 in
theorem drop_some (p Q S oq m c cs : Nat) (d s : Array Nat) (w : World) (hm : 0 < m) (hmc : m ≤ c) (hc : c ≤ 1048576) (hcs : m ≤ cs) (hcs2 : cs ≤ 1048576) (h0 : w.cell? ⟨p, 0, none⟩ = some (.slice (some ⟨Q, oq, none⟩) m c)) (f0 : w.frozen? ⟨p, 0, none⟩ = false) (h1 : w.cell? ⟨p, 1, none⟩ = some (.slice (some ⟨S, 0, none⟩) m cs)) (f1 : w.frozen? ⟨p, 1, none⟩ = false) (hx : w.cell? ⟨Q, oq, none⟩ = some (.float .f64 d[0]!)) (hS : Holds enc w S 0 s) (hp : S ≠ p) (hv : View m s d) :
    Calls Try.prog 36 #[.pointer (some ⟨p, 0, none⟩)] w fun e w' => e = .returned (.tuple #[]) ∧ ∃ i q, i < m ∧ Fl.key s[i]! = Fl.key d[0]! ∧ w' = ((putRow enc (w.setCell ⟨p, 0, none⟩ (rest Q oq m c)) S 0 (delZ s i)).drewN q).setCell ⟨p, 1, none⟩ (.slice (some ⟨S, 0, none⟩) (m - 1) cs) := by
  have hnil := fun w a n c => Lib.run_eql_slice_nil (P := Try.prog) w 22 25 a n c 0 0 Try.underlying22
  obtain ⟨x, hxx⟩ : ∃ x, d[0]! = x := ⟨_, rfl⟩
  rw [hxx] at hx
  have HX : Hid (d[0]! = x) := hxx
  have HS : Hid _ := hS
  have HV : Hid _ := hv
  clear hxx hS hv
  obtain ⟨W1, hW1⟩ : ∃ W1, W1 = w.setCell ⟨p, 0, none⟩ (rest Q oq m c) := ⟨_, rfl⟩
  have HW1 : Hid _ := hW1
  have HS1 : Hid (Holds enc W1 S 0 s) := by
    show Holds _ _ _ _ _
    rw [hW1]
    intro t ht
    rw [World.cell?_setCell_other _ _ _ _ (fun e => hp (by injection e with e1; exact e1.symm)), World.frozen?_setCell]
    exact HS.out t ht
  have H1 : W1.cell? ⟨p, 1, none⟩ = some (.slice (some ⟨S, 0, none⟩) m cs) := by
    rw [hW1, World.cell?_setCell_other _ _ _ _ (by simp)]
    exact h1
  have F1 : W1.frozen? ⟨p, 1, none⟩ = false := by
    rw [hW1, World.frozen?_setCell]
    exact f1
  clear hW1
  go_enter Try.func36, Try.ntmps36
  go_wp2_with fail
  · rw [show w.setCell ⟨p, 0, none⟩ (.slice (some ⟨Q, oq, none⟩) (m - 1) 0) = W1 by rw [HW1.out]; simp [rest, h]]
    refine (search_any S 0 m cs x s W1 (by omega) (fun j hj => (HS1.out j (by rw [HV.out.ss]; exact hj)).1) HV.out.asc).mono ?_
    rintro e w' ⟨i, v, rfl, hsr, rfl⟩
    obtain ⟨hi, hk⟩ := HV.out.found hm (by rw [HX.out]; exact hsr)
    have HK : Hid _ := hk
    clear hk hsr
    go_wp2_with fail
    refine (delete_any S 0 m cs i s W1 HV.out.ss HS1.out hcs (by omega) hi).mono ?_
    rintro e w2 ⟨rfl, q, hw2⟩
    have f2 : w2.frozen? ⟨p, 1, none⟩ = false := by
      rw [hw2, World.frozen?_drewN, frozen?_putRow]; exact F1
    have c2 : w2.cell? ⟨p, 1, none⟩ = some (.slice (some ⟨S, 0, none⟩) m cs) := by
      rw [hw2, World.cell?_drewN, cell?_putRow_other _ _ _ _ _ _ (.inl (Ne.symm hp))]; exact H1
    have HW2 : Hid _ := hw2
    clear hw2
    go_wp2
    go_end0
    refine ⟨rfl, i, q, hi, HK.out, ?_⟩
    rw [HW2.out, HW1.out]
  · rw [show w.setCell ⟨p, 0, none⟩ (.slice (some ⟨Q, oq + 1, none⟩) (m - 1) (c - 1)) = W1 by rw [HW1.out]; simp [rest, h]]
    refine (search_any S 0 m cs x s W1 (by omega) (fun j hj => (HS1.out j (by rw [HV.out.ss]; exact hj)).1) HV.out.asc).mono ?_
    rintro e w' ⟨i, v, rfl, hsr, rfl⟩
    obtain ⟨hi, hk⟩ := HV.out.found hm (by rw [HX.out]; exact hsr)
    have HK : Hid _ := hk
    clear hk hsr
    go_wp2_with fail
    refine (delete_any S 0 m cs i s W1 HV.out.ss HS1.out hcs (by omega) hi).mono ?_
    rintro e w2 ⟨rfl, q, hw2⟩
    have f2 : w2.frozen? ⟨p, 1, none⟩ = false := by
      rw [hw2, World.frozen?_drewN, frozen?_putRow]; exact F1
    have c2 : w2.cell? ⟨p, 1, none⟩ = some (.slice (some ⟨S, 0, none⟩) m cs) := by
      rw [hw2, World.cell?_drewN, cell?_putRow_other _ _ _ _ _ _ (.inl (Ne.symm hp))]; exact H1
    have HW2 : Hid _ := hw2
    clear hw2
    go_wp2
    go_end0
    refine ⟨rfl, i, q, hi, HK.out, ?_⟩
    rw [HW2.out, HW1.out]

/-- Calls of 26 are calls of 36. -/
theorem zzdrop_of (p : Nat) (w : World) (Q : World → Prop) (h : Calls Try.prog 36 #[.pointer (some ⟨p, 0, none⟩)] w fun e w' => e = .returned (.tuple #[]) ∧ Q w') :
    Calls Try.prog 26 #[.pointer (some ⟨p, 0, none⟩)] w fun e w' => e = .returned (.tuple #[]) ∧ Q w' := by
  have H : Hid _ := h
  clear h
  go_enter Try.func26, Try.ntmps26
  go_wp2_with fail
  refine Calls.mono H.out ?_
  rintro e w' ⟨rfl, hq⟩
  have HQ : Hid _ := hq
  clear hq
  go_wp2
  go_end0
  exact ⟨rfl, HQ.out⟩
end Go.Proofs.Qxb6602921a
