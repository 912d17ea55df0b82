/-
  THE ROW OF 'Rows.FnIdentListNumFieldsAgreesWithStringSaid' (function 6), out of the law's walk (YoedywNumLaw).
-/
import Derived.Test.YoedywFrame
import Derived.Test.YoedywNumLaw
namespace Go.Proofs.Yoedyw
open Go.ChangeShapes Go.WideShapes Go.ChangeAt Go.RowKit

set_option maxRecDepth 100000 in
theorem num_said_lifted (os : Os) (started : os.Started) (H : Type) (enc : TypeId × Value → H) :
    ReturnsInHanded {} Edyg.checked os 6 .any (Rows.fnIdentListNumFieldsAgreesWithStringSpec.pre6 enc Edyg.prog Edyg.f6 Rows.fnIdentListNumFieldsAgreesWithStringRow.domain false) (Rows.fnIdentListNumFieldsAgreesWithStringSpec.post enc Edyg.prog Edyg.f6 false true false false) := by
  refine returnsInHanded_of_change (C := Edyg.checked) own started (by kernel_rfl) Edyg.func6
    (ChangeSpec.witness6 (enc := enc) (C := Edyg.checked) false ⟨#[], #[.bool false, .slice none 0 0], []⟩ 8 (by kernel_rfl) (by kernel_rfl) (by kernel_rfl) (by kernel_rfl)) ?_
  intro W base args ds gs before hval0 hW _ _
  have hval : ∀ (j : Nat) t v, Edyg.f6.params[j]? = some t → args[j]? = some v → Value.okWide Edyg.prog W .any base t v := hval0
  have hW' := hW
  obtain ⟨p, q, hA0, hV, rfl, _, _⟩ := hW
  have hA : DataW.TrodAll enc Edyg.prog W 0 (fun _ => true) true Edyg.f6.params.toList args.toList ds p := hA0
  rw [Edyg.params6] at hA hval
  obtain ⟨v0, vs0, d0, ds0, p0, q0, hargs, rfl, rfl, h0, r0⟩ := trodAll_cons hA
  obtain ⟨v1, vs1, d1, ds1, p1, q1, rfl, rfl, rfl, h1, r1⟩ := trodAll_cons r0
  obtain ⟨rfl, rfl, rfl⟩ := trodAll_nil r1
  obtain rfl : args = #[v0, v1] := by cases args; simp_all
  obtain ⟨rfl, rfl⟩ := trodVars_none hV
  obtain ⟨a0, rfl, rfl, rfl⟩ := open_bool Edyg.underlying4 (hval 0 4 v0 rfl rfl) h0
  obtain ⟨a1, len1, cap1, rfl⟩ := okWide_slice Edyg.underlying22 (hval 1 22 v1 rfl rfl)
  have lt1 : ∀ x ∈ p1, x.block < W.heap.size := by obtain ⟨m, hm⟩ := h1; exact DataW.trod_lt m _ _ _ hm
  obtain ⟨S1, w1, n1⟩ := open_strRow h1
  clear hA0 hval0
  refine (numLaw a0 a1 len1 cap1 S1 W w1 n1).mono fun e W' ⟨he, bel⟩ => ?_
  subst he
  exact ⟨_, rfl, _, _, _, [], _, [], hW', trodAll_mk1 (shut_bool Edyg.underlying4 _), (trodAll_cons_mk (shut_bool Edyg.underlying4 _) (trodAll_cons_mk (Below.trod laidOut (by kernel_rfl) (of_decide_eq_true (by kernel_rfl)) h1 bel lt1) trodAll_mk0)), rfl, bel.frame _, fun h => by cases h⟩

theorem num_said_over : Rows.fnIdentListNumFieldsAgreesWithStringRow.holds Edyg.pinned (OpenSpec.ofChange Rows.fnIdentListNumFieldsAgreesWithStringSpec) :=
  OpenClaim.holds_of_wide 6 Edyg.f6 rfl rfl rfl rfl rfl rfl rfl ⟨rfl, rfl, rfl, rfl, rfl⟩ rfl rfl rfl rfl rfl (by kernel_rfl) Edyg.func6 (by kernel_rfl)
    (of_decide_eq_true (by kernel_rfl)) (by unfold Func.isWrapper; rw [if_neg (of_decide_eq_false (by kernel_rfl))]; exact ⟨rfl, rfl⟩)
    (fun os started H enc _ => num_said_lifted os started H enc)

/-- THE STATEMENT. -/
theorem num_said : Rows.FnIdentListNumFieldsAgreesWithStringSaid := num_said_over

end Go.Proofs.Yoedyw
