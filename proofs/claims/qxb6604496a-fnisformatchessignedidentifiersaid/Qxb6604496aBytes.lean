/-
  The byte guard (5), as far as the law looks: where it says true the slices and the identifiers are short.
-/
import Derived.Test.Qxb6604496aSmall
namespace Go.Proofs.Qxb6604496a
open Go.RowKit Go.Sort

set_option maxRecDepth 100000 in
set_option maxHeartbeats 4000000 in
theorem bytes5_any (c : Int) (nm wr : ByteArray) (ng : Bool) (r : Int) (a : Option Addr) (n cap : Nat) (src ln : Int) (tx : ByteArray) (c2 : Int) (nm2 wr2 : ByteArray) (ng2 : Bool) (r2 : Int) (a2 : Option Addr) (n2 cap2 : Nat) (src2 ln2 : Int) (tx2 : ByteArray) (S S2 : Nat → ByteArray) (w : World) (h : IsS w a n S) (h2 : IsS w a2 n2 S2) :
    Calls Try.prog 5 #[.agg #[.int .i64 c, .string nm, .string wr, .bool ng, .int .u16 r, .slice a n cap, .int .i64 src, .int .i64 ln, .string tx], .agg #[.int .i64 c2, .string nm2, .string wr2, .bool ng2, .int .u16 r2, .slice a2 n2 cap2, .int .i64 src2, .int .i64 ln2, .string tx2]] w
      fun e w' => ∃ v, e = .returned v ∧ (v = .bool false ∨ (v = .bool true ∧ n ≤ 1048576 ∧ n2 ≤ 1048576 ∧ wr.size ≤ 1048576 ∧ wr2.size ≤ 1048576)) ∧ Below w.heap.size w w' := by
  have H : Hid (IsS w a n S) := h
  have H2 : Hid (IsS w a2 n2 S2) := h2
  clear h h2
  go_enter Try.func5, Try.ntmps5
  go_wp2
  all_goals first | (go_ret; exact ⟨_, rfl, .inl rfl, by go_grown⟩) | skip
  have hn : n ≤ 1048576 := by omega
  have hw : wr.size ≤ 1048576 := by omega
  go_loop [5, 6] (fun v5 v6 => ∃ z k : Nat, v5 = .int .i64 z ∧ v6 = .int .i64 k ∧ z ≤ 1048576 ∧ k ≤ n) (fun _ v => n - (intOf v).toNat)
  case atStart => exact ⟨nm.size + wr.size + n, 0, by go_num, rfl, by omega, Nat.zero_le _⟩
  case round =>
    obtain ⟨z, k, rfl, rfl, hz, hk⟩ := hrel
    by_cases hlt : k < n
    · rcases H.out with h0 | ⟨b, off, rfl, hb, hr⟩
      · omega
      have c1 := hr k hlt
      clear hr
      generalize S k = s at c1
      go_wp2
      all_goals first
        | (go_ret; exact ⟨_, rfl, .inl rfl, by go_grown⟩)
        | (go_round
           case rel => exact ⟨z + s.size, k + 1, by go_num, by go_num, by omega, by omega⟩
           case measure => simp [intOf]; omega)
    · clear hk
      go_wp2
      all_goals first | (go_ret; exact ⟨_, rfl, .inl rfl, by go_grown⟩) | skip
      have hn2 : n2 ≤ 1048576 := by omega
      have hw2 : wr2.size ≤ 1048576 := by omega
      go_loop [5, 7] (fun v5 v6 => ∃ z k : Nat, v5 = .int .i64 z ∧ v6 = .int .i64 k ∧ z ≤ 1048576 ∧ k ≤ n2) (fun _ v => n2 - (intOf v).toNat)
      case atStart => exact ⟨z + tx.size + nm2.size + wr2.size + n2, 0, by go_num, rfl, by omega, Nat.zero_le _⟩
      case round =>
        obtain ⟨z2, k2, rfl, rfl, hz2, hk2⟩ := hrel
        by_cases hlt2 : k2 < n2
        · rcases H2.out with h0 | ⟨b, off, rfl, hb, hr⟩
          · omega
          have c1 := hr k2 hlt2
          clear hr
          generalize S2 k2 = s at c1
          go_wp2
          all_goals first
            | (go_ret; exact ⟨_, rfl, .inl rfl, by go_grown⟩)
            | (go_round
               case rel => exact ⟨z2 + s.size, k2 + 1, by go_num, by go_num, by omega, by omega⟩
               case measure => simp [intOf]; omega)
        · clear hk2
          go_wp2
          all_goals first
            | (go_ret; exact ⟨_, rfl, .inl rfl, by go_grown⟩)
            | (go_ret; exact ⟨_, rfl, .inr rfl, by go_grown⟩)
end Go.Proofs.Qxb6604496a
