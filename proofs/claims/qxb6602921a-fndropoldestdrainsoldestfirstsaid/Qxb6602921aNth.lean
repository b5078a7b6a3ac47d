/-
  The walk of 'nth': it leaves a permutation of the row, and answers what then stands at place k.
-/
import Derived.Test.Qxb6602921aBase
namespace Go.Proofs.Qxb6602921a
open Go.RowKit Go.Sort
attribute [local go_sem] run_store_float

/-- The encoding of a row of floats. -/
def enc (x : Nat) : Value := .float .f64 x

theorem cell?_setCell_some {w : World} {p q : Addr} {x v : Value} (h : w.cell? q = some v) : ∃ v', (w.setCell p x).cell? q = some v' := by
  by_cases e : p = q
  · subst e; exact ⟨_, World.cell?_setCell_same _ _ _ h⟩
  · exact ⟨v, by rw [World.cell?_setCell_other _ _ _ _ e]; exact h⟩
/-- 'a[i], a[j] = a[j], a[i]' as the walk leaves it: two stores and the region's draw. -/
theorem swap_world (enc : Nat → Value) (w : World) (blk off : Nat) (dk : Array Nat) (n i j : Nat) (hi : i < dk.size) (hj : j < dk.size) :
    ((((putRow enc w blk off dk).drewN n).setCell ⟨blk, off + i, none⟩ (enc dk[j]!)).setCell ⟨blk, off + j, none⟩ (enc dk[i]!)).drew = (putRow enc w blk off (swp dk i j)).drewN (n + 1) := by
  rw [← putRow_swp enc w blk off dk i j hi hj]
  rfl
theorem ret_float {a b : Nat} (h : a = b) : Ending.returned (.float .f64 a) = .returned (.float .f64 b) := by rw [h]

set_option maxRecDepth 100000 in
set_option maxHeartbeats 1000000 in
theorem nth_any (blk off cap n k : Nat) (d : Array Nat) (w : World) (hH : Holds enc w blk off d) (hd : d.size = n) (hk : k < n) (hn : n ≤ 1048576) :
    Calls Try.prog 31 #[.slice (some ⟨blk, off, none⟩) n cap, .int .i64 k] w fun e w' => ∃ dk q, e = .returned (.float .f64 dk[k]!) ∧ w' = (putRow enc w blk off dk).drewN q ∧ Post d n k dk := by
  go_enter Try.func31, Try.ntmps31
  go_wp2
  go_loopw [5, 6] (fun vlo vhi wr => ∃ (lo hi q : Nat) (dk : Array Nat), vlo = .int .i64 lo ∧ vhi = .int .i64 hi ∧ wr = (putRow enc w blk off dk).drewN q ∧ Outer d n k lo hi dk) (fun vlo vhi _ => (intOf vhi - intOf vlo).toNat)
  case atStart => exact ⟨0, n - 1, 0, d, rfl, by go_num, (putRow_self _ _ _ _ _ hH).symm, Outer.begin hd hk⟩
  case round =>
    obtain ⟨lo, hi, q, dk, rfl, rfl, hwr, ho⟩ := hrel
    have hlok := ho.lok
    have hkhi := ho.khi
    have hhin := ho.hin
    obtain ⟨G, hG⟩ : ∃ G : Nat → Nat, ∀ t, G t = dk[t]! := ⟨fun t => dk[t]!, fun _ => rfl⟩
    have hcw : ∀ t, t < n → wr.cell? ⟨blk, off + t, none⟩ = some (.float .f64 (G t)) := fun t ht => by
      rw [hwr, hG]; exact cell?_putRow enc w blk off d dk hH (by rw [ho.size, hd]) t (by rw [ho.size]; exact ht)
    have HW : Hid (wr = (putRow enc w blk off dk).drewN q) := hwr
    have HG : Hid (∀ t, G t = dk[t]!) := hG
    clear hwr hG
    by_cases hlt : lo < hi
    · obtain ⟨p, hp⟩ : ∃ p, G (lo + (hi - lo) / 2) = p := ⟨_, rfl⟩
      have hin0 := ho.start hlt
      rw [← HG.out, hp] at hin0
      go_wp2
      have HP : Hid (G (lo + (hi - lo) / 2) = p) := hp
      clear hp hcw
      go_loopw [8, 9] (fun vi vj wr2 => ∃ (i jp q2 : Nat) (dj : Array Nat), vi = .int .i64 i ∧ vj = .int .i64 ((jp : Int) - 1) ∧ wr2 = (putRow enc w blk off dj).drewN q2 ∧ Inner d n lo hi p i jp dj) (fun vi vj _ => (intOf vj + 1 - intOf vi).toNat)
      case atStart => exact ⟨lo, hi + 1, q, dk, rfl, by go_num, HW.out, hin0⟩
      case round =>
        clear hin0 HW HG HP
        obtain ⟨i, jp, q2, dj, rfl, rfl, hwr2, hi2⟩ := hrel
        have hloi := hi2.loi
        have hih := hi2.ih
        have hloj := hi2.loj
        have hjh := hi2.jh
        have hjsz := hi2.size
        obtain ⟨F, hF⟩ : ∃ F : Nat → Nat, ∀ t, F t = dj[t]! := ⟨fun t => dj[t]!, fun _ => rfl⟩
        have hHj : Holds enc ((putRow enc w blk off dj).drewN q2) blk off dj := holds_putRow enc w blk off d dj hH (by rw [hjsz, hd])
        rw [← hwr2] at hHj
        have hcf : ∀ t, t < n → wr.cell? ⟨blk, off + t, none⟩ = some (.float .f64 (F t)) := fun t ht => by
          rw [hF]; exact (hHj t (by omega)).1
        have hff : ∀ t, t < n → wr.frozen? ⟨blk, off + t, none⟩ = false := fun t ht => (hHj t (by omega)).2
        have HW : Hid (wr = (putRow enc w blk off dj).drewN q2) := hwr2
        have HF : Hid (∀ t, F t = dj[t]!) := hF
        clear hwr2 hF hHj
        by_cases hij : i < jp
        · obtain ⟨su, hu1, hu2, hu3⟩ := hi2.up hij
          obtain ⟨sd, hd1, hd2, hd3⟩ := hi2.down hij
          rw [← HF.out] at hu3 hd3
          go_wp2
          go_loop [8] (fun v => ∃ a : Nat, v = .int .i64 a ∧ i ≤ a ∧ a ≤ su ∧ ∀ t, i ≤ t → t < a → Fl.lt (F t) p = true) (fun v => su - (intOf v).toNat)
          case atStart => exact ⟨i, rfl, Nat.le_refl _, hu1, fun t h1 h2 => by omega⟩
          case round =>
            obtain ⟨a, rfl, ha1, ha2, ha3⟩ := hrel
            go_wp2
            · have hl : Fl.lt (F a) p = true := by assumption
              have hne : a ≠ su := fun e => by rw [e, hu3] at hl; cases hl
              go_round
              case rel => exact ⟨a + 1, by go_num, by omega, by omega, fun t h1 h2 => by
                by_cases e : t = a
                · rw [e]; exact hl
                · exact ha3 t h1 (by omega)⟩
              case measure => simp [intOf]; omega
            · have hsu : Fl.lt (F a) p = false := by assumption
              go_loop [9] (fun v => ∃ c : Nat, v = .int .i64 c ∧ sd ≤ c ∧ c < jp ∧ ∀ t, c < t → t < jp → Fl.lt p (F t) = true) (fun v => (intOf v).toNat)
              case atStart => exact ⟨jp - 1, by go_num, by omega, by omega, fun t h1 h2 => by omega⟩
              case round =>
                obtain ⟨c, rfl, hc1, hc2, hc3⟩ := hrel
                have hlo2 : lo ≤ c := by omega
                have HUP : Hid (∀ t, i ≤ t → t < a → Fl.lt dj[t]! p = true) := fun t h1 h2 => by rw [← HF.out]; exact ha3 t h1 h2
                have HDN : Hid (∀ t, c < t → t < jp → Fl.lt p dj[t]! = true) := fun t h1 h2 => by rw [← HF.out]; exact hc3 t h1 h2
                go_wp2
                · have hl : Fl.gt (F c) p = true := by assumption
                  rw [Fl.gt_eq] at hl
                  have hne : c ≠ sd := fun e => by rw [e, hd3] at hl; cases hl
                  go_round
                  case rel => exact ⟨c - 1, by go_num, by omega, by omega, fun t h1 h2 => by
                    by_cases e : t = c
                    · rw [e]; exact hl
                    · exact hc3 t (by omega) h2⟩
                  case measure => simp [intOf]; omega
                · have hsd0 : Fl.gt (F c) p = false := by assumption
                  have hac : a ≤ c := by assumption
                  have hsd : Fl.lt p (F c) = false := by rw [← Fl.gt_eq]; exact hsd0
                  rw [HF.out] at hsu hsd
                  have hnew := hi2.swap ha1 hc2 hlo2 (by omega) HUP.out HDN.out hsu hsd hac
                  obtain ⟨v', hy'⟩ := cell?_setCell_some (w := wr) (p := ⟨blk, off + a, none⟩) (x := .float .f64 (F c)) (q := ⟨blk, off + c, none⟩) (hcf c (by omega))
                  clear hsd0 hsd hsu ha3 hc3 hu3 hd3
                  go_region
                  all_goals go_wp2
                  go_roundw
                  case rel => exact ⟨a + 1, c, q2 + 1, swp dj a c, by go_num, by go_num, by rw [HW.out, HF.out, HF.out]; exact swap_world enc w blk off dj q2 a c (by omega) (by omega), hnew⟩
                  case measure => simp [intOf]; omega
                · have hca : ¬ a ≤ c := by assumption
                  have hnew := hi2.pass ha1 hc2 hlo2 (by omega) HUP.out HDN.out (by omega)
                  go_roundw
                  case rel => exact ⟨a, c + 1, q2, dj, rfl, by go_num, HW.out, hnew⟩
                  case measure => simp [intOf]; omega
        · have hout : jp ≤ i := by omega
          have hmv := hi2.moved hout
          go_wp2
          · have hkj : (k : Int) ≤ (jp : Int) - 1 := by assumption
            go_roundw
            case rel => exact ⟨lo, jp - 1, q2, dj, rfl, by go_num, HW.out, hi2.toLow hout hlok (by omega)⟩
            case measure => simp [intOf]; omega
          · have hik : i ≤ k := by assumption
            go_roundw
            case rel => exact ⟨i, hi, q2, dj, rfl, rfl, HW.out, hi2.toHigh hout hkhi hik⟩
            case measure => simp [intOf]; omega
          · have hjk : (jp : Int) - 1 < (k : Int) := by assumption
            have hik : ¬ i ≤ k := by assumption
            go_ret
            exact ⟨dj, q2, ret_float (HF.out k), HW.out, hi2.toPost hlok hkhi (by omega) (by omega)⟩
    · go_wp2
      go_ret
      exact ⟨dk, q, ret_float (HG.out k), HW.out, ho.toPost hlt⟩
end Go.Proofs.Qxb6602921a
