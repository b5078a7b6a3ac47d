/-
  'Rows.FnIsForMatchesSignedIdentifierSaid', proved.
-/
import Derived.Test.Qxb6604496aLaw
import Derived.Test.Qxb6604496aOpen
namespace Go.Proofs.Qxb6604496a.fnIsForMatchesSignedIdentifier
open Go.ChangeShapes Go.WideShapes Go.ChangeAt Go.RowKit

set_option maxRecDepth 100000 in
theorem lifted (os : Os) (started : os.Started) (H : Type) (enc : TypeId × Value → H) :
    ReturnsInHanded {} Try.checked os 3 .any (Rows.fnIsForMatchesSignedIdentifierSpec.pre6 enc Try.prog Try.f3 Rows.fnIsForMatchesSignedIdentifierRow.domain false) (Rows.fnIsForMatchesSignedIdentifierSpec.post enc Try.prog Try.f3 false true false false) := by
  refine returnsInHanded_of_change (C := Try.checked) own started (by kernel_rfl) Try.func3
    (ChangeSpec.witness6 (enc := enc) (C := Try.checked) false ⟨#[], #[.agg #[.int .i64 0, .string ⟨#[]⟩, .string ⟨#[]⟩, .bool false, .int .u16 0, .slice none 0 0, .int .i64 0, .int .i64 0, .string ⟨#[]⟩], .agg #[.int .i64 0, .string ⟨#[]⟩, .string ⟨#[]⟩, .bool false, .int .u16 0, .slice none 0 0, .int .i64 0, .int .i64 0, .string ⟨#[]⟩]], []⟩ 8 (by kernel_rfl) (by kernel_rfl) (by kernel_rfl) (by kernel_rfl)) ?_
  intro W base args ds gs before hval0 hW hcnd _
  have hval : ∀ (j : Nat) t v, Try.f3.params[j]? = some t → args[j]? = some v → Value.okWide Try.prog W .any base t v := hval0
  have hW' := hW
  obtain ⟨p, q, hA0, hV, rfl, hfz, hnd⟩ := hW
  have hA : DataW.TrodAll enc Try.prog W 0 (fun _ => true) true Try.f3.params.toList args.toList ds p := hA0
  rw [Try.params3] at hA hval
  obtain ⟨v0, vs0, d0, ds0, p0, q0, hargs, rfl, rfl, h0, r0⟩ := trodAll_cons hA
  obtain ⟨v1, vs1, d1, ds1, p1, q1, rfl, rfl, rfl, h1, r1⟩ := trodAll_cons r0
  obtain ⟨rfl, rfl, rfl⟩ := trodAll_nil r1
  obtain rfl : args = #[v0, v1] := by cases args; simp_all
  obtain ⟨rfl, rfl⟩ := trodVars_none hV
  have k0 := h0
  have k1 := h1
  have lt0 : ∀ x ∈ p0, x.block < W.heap.size := by obtain ⟨m, hm⟩ := k0; exact DataW.trod_lt m _ _ _ hm
  have lt1 : ∀ x ∈ p1, x.block < W.heap.size := by obtain ⟨m, hm⟩ := k1; exact DataW.trod_lt m _ _ _ hm
  obtain ⟨c, nm, wr, ng, r, a, n, cap, src, ln, tx, S, rfl, hS, hc⟩ := open_entry (hval 0 25 v0 rfl rfl) h0
  obtain ⟨c2, nm2, wr2, ng2, r2, a2, n2, cap2, src2, ln2, tx2, S2, rfl, hS2, hc2⟩ := open_entry (hval 1 25 v1 rfl rfl) h1
  clear hA0 hval0
  refine (law_any c nm wr ng r a n cap src ln tx c2 nm2 wr2 ng2 r2 a2 n2 cap2 src2 ln2 tx2 S S2 W hS hc hS2 hc2).mono fun e W' ⟨he, bel⟩ => ?_
  subst he
  exact ⟨_, rfl, _, _, _, [], _, [], hW', trodAll_mk1 (shut_bool Try.underlying4 _), (trodAll_cons_mk (Below.trod laidOut (by kernel_rfl) (of_decide_eq_true (by kernel_rfl)) k0 bel lt0) (trodAll_cons_mk (Below.trod laidOut (by kernel_rfl) (of_decide_eq_true (by kernel_rfl)) k1 bel lt1) trodAll_mk0)), rfl, bel.frame _, fun h => by cases h⟩

theorem over : Rows.fnIsForMatchesSignedIdentifierRow.holds Try.pinned (OpenSpec.ofChange Rows.fnIsForMatchesSignedIdentifierSpec) :=
  OpenClaim.holds_of_wide 3 Try.f3 rfl rfl rfl rfl rfl rfl rfl ⟨rfl, rfl, rfl, rfl, rfl⟩ rfl rfl rfl rfl rfl (by kernel_rfl) Try.func3 (by kernel_rfl)
    (of_decide_eq_true (by kernel_rfl)) (by unfold Func.isWrapper; first | (rw [if_pos (by decide +kernel)]; kernel_rfl) | (rw [if_neg (by decide +kernel)]; exact ⟨rfl, rfl⟩))
    (fun os started H enc _ => lifted os started H enc)

/-- THE STATEMENT. -/
theorem proved : Rows.FnIsForMatchesSignedIdentifierSaid := over
end Go.Proofs.Qxb6604496a.fnIsForMatchesSignedIdentifier
