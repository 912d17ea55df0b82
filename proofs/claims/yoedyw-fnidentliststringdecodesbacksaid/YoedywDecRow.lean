/-
  THE ROW OF 'Rows.FnIdentListStringDecodesBackSaid' (function 7), out of the law's walk (YoedywDecLaw).
-/
import Derived.Test.YoedywFrame
import Derived.Test.YoedywDecLaw
namespace Go.Proofs.Yoedyw
open Go.ChangeShapes Go.WideShapes Go.ChangeAt Go.RowKit

set_option maxRecDepth 100000 in
theorem decodes_said_lifted (os : Os) (started : os.Started) (H : Type) (enc : TypeId × Value → H) :
    ReturnsInHanded {} Edyg.checked os 7 .any (Rows.fnIdentListStringDecodesBackSpec.pre6 enc Edyg.prog Edyg.f7 Rows.fnIdentListStringDecodesBackRow.domain false) (Rows.fnIdentListStringDecodesBackSpec.post enc Edyg.prog Edyg.f7 false true false false) := by
  refine returnsInHanded_of_change (C := Edyg.checked) own started (by kernel_rfl) Edyg.func7
    (ChangeSpec.witness6 (enc := enc) (C := Edyg.checked) false ⟨#[], #[.bool false, .slice none 0 0], []⟩ 8 (by kernel_rfl) (by kernel_rfl) (by kernel_rfl) (by kernel_rfl)) ?_
  intro W base args ds gs before hval0 hW _ _
  have hval : ∀ (j : Nat) t v, Edyg.f7.params[j]? = some t → args[j]? = some v → Value.okWide Edyg.prog W .any base t v := hval0
  have hW' := hW
  obtain ⟨p, q, hA0, hV, rfl, _, _⟩ := hW
  have hA : DataW.TrodAll enc Edyg.prog W 0 (fun _ => true) true Edyg.f7.params.toList args.toList ds p := hA0
  rw [Edyg.params7] at hA hval
  obtain ⟨v0, vs0, d0, ds0, p0, q0, hargs, rfl, rfl, h0, r0⟩ := trodAll_cons hA
  obtain ⟨v1, vs1, d1, ds1, p1, q1, rfl, rfl, rfl, h1, r1⟩ := trodAll_cons r0
  obtain ⟨rfl, rfl, rfl⟩ := trodAll_nil r1
  obtain rfl : args = #[v0, v1] := by cases args; simp_all
  obtain ⟨rfl, rfl⟩ := trodVars_none hV
  obtain ⟨a0, rfl, rfl, rfl⟩ := open_bool Edyg.underlying4 (hval 0 4 v0 rfl rfl) h0
  obtain ⟨a1, len1, cap1, rfl⟩ := okWide_slice Edyg.underlying22 (hval 1 22 v1 rfl rfl)
  have lt1 : ∀ x ∈ p1, x.block < W.heap.size := by obtain ⟨m, hm⟩ := h1; exact DataW.trod_lt m _ _ _ hm
  obtain ⟨S1, w1, n1⟩ := open_strRow h1
  clear hA0 hval0
  refine (decLaw a0 a1 len1 cap1 S1 W w1 n1).mono fun e W' ⟨he, bel⟩ => ?_
  subst he
  exact ⟨_, rfl, _, _, _, [], _, [], hW', trodAll_mk1 (shut_bool Edyg.underlying4 _), (trodAll_cons_mk (shut_bool Edyg.underlying4 _) (trodAll_cons_mk (Below.trod laidOut (by kernel_rfl) (of_decide_eq_true (by kernel_rfl)) h1 bel lt1) trodAll_mk0)), rfl, bel.frame _, fun h => by cases h⟩

theorem decodes_said_over : Rows.fnIdentListStringDecodesBackRow.holds Edyg.pinned (OpenSpec.ofChange Rows.fnIdentListStringDecodesBackSpec) :=
  OpenClaim.holds_of_wide 7 Edyg.f7 rfl rfl rfl rfl rfl rfl rfl ⟨rfl, rfl, rfl, rfl, rfl⟩ rfl rfl rfl rfl rfl (by kernel_rfl) Edyg.func7 (by kernel_rfl)
    (of_decide_eq_true (by kernel_rfl)) (by unfold Func.isWrapper; rw [if_neg (of_decide_eq_false (by kernel_rfl))]; exact ⟨rfl, rfl⟩)
    (fun os started H enc _ => decodes_said_lifted os started H enc)

/-- THE STATEMENT. -/
theorem decodes_said : Rows.FnIdentListStringDecodesBackSaid := decodes_said_over

end Go.Proofs.Yoedyw
