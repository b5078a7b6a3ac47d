/-
  'Rows.FnDropOldestDrainsOldestFirstSaid', proved.
-/
import Derived.Test.Qxb6602921aDrain
import Derived.Test.Qxb6602921aOpen
namespace Go.Proofs.Qxb6602921a.fnDropOldestDrainsOldestFirst
open Go.ChangeShapes Go.WideShapes Go.ChangeAt Go.RowKit

theorem walk (a1 : Option Addr) (n1 c1 : Nat) (d : Array Nat) (a2 : Option Addr) (n2 c2 : Nat) (s : Array Nat) (b : Bool) (k : Int) (w : World) (h1 : IsFRow w a1 n1 c1 d) (h2 : IsFRow w a2 n2 c2 s) (_hk : (Lit.int .i64 k).wf = true) :
    Calls Try.prog 9 #[.slice a1 n1 c1, .slice a2 n2 c2, .bool b, .int .i64 k] w fun e w' => e = .returned (.bool true) ∧ Below w.heap.size w w' := by
  by_cases g : 4096 < n1 ∨ 4096 < n2 ∨ k < 0 ∨ (n1 : Int) < k
  · exact drain_out a1 a2 n1 c1 n2 c2 b k w g
  · obtain ⟨kk, rfl⟩ := Int.eq_ofNat_of_zero_le (show 0 ≤ k by omega)
    have hkn : kk ≤ n1 := by omega
    have h2' := h2.2
    rcases h2' with ⟨rfl, rfl, rfl⟩ | ⟨x2, rfl, _⟩
    · rcases Nat.eq_zero_or_pos n1 with rfl | hp
      · obtain rfl : kk = 0 := by omega
        exact drain_zero_nil a1 c1 0 b w
      · exact drain_nil a1 c1 n1 kk d b w (by omega) hp hkn h1
    · by_cases hne : n2 = n1
      · subst hne
        rcases Nat.eq_zero_or_pos n2 with rfl | hp
        · obtain rfl : kk = 0 := by omega
          exact drain_zero_some a1 x2 c1 c2 b w
        · exact drain_some a1 x2 c1 c2 n2 kk d s b w (by omega) hp hkn h1 h2
      · exact drain_ne a1 x2 n1 c1 n2 c2 kk b w (by omega) (by omega) hkn hne

set_option maxRecDepth 100000 in
theorem lifted (os : Os) (started : os.Started) (H : Type) (enc : TypeId × Value → H) :
    ReturnsInHanded {} Try.checked os 9 .any (Rows.fnDropOldestDrainsOldestFirstSpec.pre6 enc Try.prog Try.f9 Rows.fnDropOldestDrainsOldestFirstRow.domain false) (Rows.fnDropOldestDrainsOldestFirstSpec.post enc Try.prog Try.f9 false true false false) := by
  refine returnsInHanded_of_change (C := Try.checked) own started (by kernel_rfl) Try.func9
    (ChangeSpec.witness6 (enc := enc) (C := Try.checked) false ⟨#[], #[.slice none 0 0, .slice none 0 0, .bool false, .int .i64 0], []⟩ 8 (by kernel_rfl) (by kernel_rfl) (by kernel_rfl) (by kernel_rfl)) ?_
  intro W base args ds gs before hval0 hW hcnd _
  have hval : ∀ (j : Nat) t v, Try.f9.params[j]? = some t → args[j]? = some v → Value.okWide Try.prog W .any base t v := hval0
  have hW' := hW
  obtain ⟨p, q, hA0, hV, rfl, hfz, hnd⟩ := hW
  have hA : DataW.TrodAll enc Try.prog W 0 (fun _ => true) true Try.f9.params.toList args.toList ds p := hA0
  rw [Try.params9] at hA hval
  obtain ⟨v0, vs0, d0, ds0, p0, q0, hargs, rfl, rfl, h0, r0⟩ := trodAll_cons hA
  obtain ⟨v1, vs1, d1, ds1, p1, q1, rfl, rfl, rfl, h1, r1⟩ := trodAll_cons r0
  obtain ⟨v2, vs2, d2, ds2, p2, q2, rfl, rfl, rfl, h2, r2⟩ := trodAll_cons r1
  obtain ⟨v3, vs3, d3, ds3, p3, q3, rfl, rfl, rfl, h3, r3⟩ := trodAll_cons r2
  obtain ⟨rfl, rfl, rfl⟩ := trodAll_nil r3
  obtain rfl : args = #[v0, v1, v2, v3] := by cases args; simp_all
  obtain ⟨rfl, rfl⟩ := trodVars_none hV
  obtain ⟨a0, len0, cap0, rfl⟩ := okWide_slice Try.underlying22 (hval 0 22 v0 rfl rfl)
  have k0 := h0
  have lt0 : ∀ x ∈ p0, x.block < W.heap.size := by obtain ⟨m, hm⟩ := k0; exact DataW.trod_lt m _ _ _ hm
  obtain ⟨z0, w0⟩ : ∃ d, IsFRow W a0 len0 cap0 d := by
    obtain ⟨fuel, hf⟩ := h0
    exact open_floats Try.underlying22 Try.underlying25 (by kernel_rfl) hf
  obtain ⟨a1, len1, cap1, rfl⟩ := okWide_slice Try.underlying22 (hval 1 22 v1 rfl rfl)
  have k1 := h1
  have lt1 : ∀ x ∈ p1, x.block < W.heap.size := by obtain ⟨m, hm⟩ := k1; exact DataW.trod_lt m _ _ _ hm
  obtain ⟨z1, w1⟩ : ∃ d, IsFRow W a1 len1 cap1 d := by
    obtain ⟨fuel, hf⟩ := h1
    exact open_floats Try.underlying22 Try.underlying25 (by kernel_rfl) hf
  obtain ⟨a2, rfl, rfl, rfl⟩ := open_bool Try.underlying4 (hval 2 4 v2 rfl rfl) h2
  obtain ⟨a3, rfl, rfl, rfl, w3⟩ := open_int Try.underlying3 (hval 3 3 v3 rfl rfl) h3
  clear hA0 hval0
  refine (walk a0 len0 cap0 z0 a1 len1 cap1 z1 a2 a3 W w0 w1 w3).mono fun e W' ⟨he, bel⟩ => ?_
  subst he
  exact ⟨_, rfl, _, _, _, [], _, [], hW', trodAll_mk1 (shut_bool Try.underlying4 _), (trodAll_cons_mk (Below.trod laidOut (by kernel_rfl) (of_decide_eq_true (by kernel_rfl)) k0 bel lt0) (trodAll_cons_mk (Below.trod laidOut (by kernel_rfl) (of_decide_eq_true (by kernel_rfl)) k1 bel lt1) (trodAll_cons_mk (shut_bool Try.underlying4 _) (trodAll_cons_mk (shut_int Try.underlying3 w3) trodAll_mk0)))), rfl, bel.frame _, fun h => by cases h⟩

theorem over : Rows.fnDropOldestDrainsOldestFirstRow.holds Try.pinned (OpenSpec.ofChange Rows.fnDropOldestDrainsOldestFirstSpec) :=
  OpenClaim.holds_of_wide 9 Try.f9 rfl rfl rfl rfl rfl rfl rfl ⟨rfl, rfl, rfl, rfl, rfl⟩ rfl rfl rfl rfl rfl (by kernel_rfl) Try.func9 (by kernel_rfl)
    (of_decide_eq_true (by kernel_rfl)) (by unfold Func.isWrapper; first | (rw [if_pos (by decide +kernel)]; kernel_rfl) | (rw [if_neg (by decide +kernel)]; exact ⟨rfl, rfl⟩))
    (fun os started H enc _ => lifted os started H enc)

/-- THE STATEMENT. -/
theorem proved : Rows.FnDropOldestDrainsOldestFirstSaid := over
end Go.Proofs.Qxb6602921a.fnDropOldestDrainsOldestFirst
