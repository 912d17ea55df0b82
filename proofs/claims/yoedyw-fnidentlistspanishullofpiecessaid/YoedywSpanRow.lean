/-
  THE ROW OF 'Rows.FnIdentListSpanIsHullOfPiecesSaid' (function 3), out of the law's walk (YoedywSpanLaw).
-/
import Derived.Test.YoedywFrame
import Derived.Test.YoedywSpanLaw
namespace Go.Proofs.Yoedyw
open Go.ChangeShapes Go.WideShapes Go.ChangeAt Go.RowKit

set_option maxRecDepth 100000 in
theorem span_said_lifted (os : Os) (started : os.Started) (H : Type) (enc : TypeId × Value → H) :
    ReturnsInHanded {} Edyg.checked os 3 .any (Rows.fnIdentListSpanIsHullOfPiecesSpec.pre6 enc Edyg.prog Edyg.f3 Rows.fnIdentListSpanIsHullOfPiecesRow.domain false) (Rows.fnIdentListSpanIsHullOfPiecesSpec.post enc Edyg.prog Edyg.f3 false true false false) := by
  refine returnsInHanded_of_change (C := Edyg.checked) own started (by kernel_rfl) Edyg.func3
    (ChangeSpec.witness6 (enc := enc) (C := Edyg.checked) false ⟨#[], #[.int .i64 0, .int .i64 0, .bool false, .slice none 0 0, .slice none 0 0], []⟩ 8 (by kernel_rfl) (by kernel_rfl) (by kernel_rfl) (by kernel_rfl)) ?_
  intro W base args ds gs before hval0 hW _ _
  have hval : ∀ (j : Nat) t v, Edyg.f3.params[j]? = some t → args[j]? = some v → Value.okWide Edyg.prog W .any base t v := hval0
  have hW' := hW
  obtain ⟨p, q, hA0, hV, rfl, _, _⟩ := hW
  have hA : DataW.TrodAll enc Edyg.prog W 0 (fun _ => true) true Edyg.f3.params.toList args.toList ds p := hA0
  rw [Edyg.params3] at hA hval
  obtain ⟨v0, vs0, d0, ds0, p0, q0, hargs, rfl, rfl, h0, r0⟩ := trodAll_cons hA
  obtain ⟨v1, vs1, d1, ds1, p1, q1, rfl, rfl, rfl, h1, r1⟩ := trodAll_cons r0
  obtain ⟨v2, vs2, d2, ds2, p2, q2, rfl, rfl, rfl, h2, r2⟩ := trodAll_cons r1
  obtain ⟨v3, vs3, d3, ds3, p3, q3, rfl, rfl, rfl, h3, r3⟩ := trodAll_cons r2
  obtain ⟨v4, vs4, d4, ds4, p4, q4, rfl, rfl, rfl, h4, r4⟩ := trodAll_cons r3
  obtain ⟨rfl, rfl, rfl⟩ := trodAll_nil r4
  obtain rfl : args = #[v0, v1, v2, v3, v4] := by cases args; simp_all
  obtain ⟨rfl, rfl⟩ := trodVars_none hV
  obtain ⟨a0, rfl, rfl, rfl, w0⟩ := open_int Edyg.underlying3 (hval 0 3 v0 rfl rfl) h0
  obtain ⟨a1, rfl, rfl, rfl, w1⟩ := open_int Edyg.underlying3 (hval 1 3 v1 rfl rfl) h1
  obtain ⟨a2, rfl, rfl, rfl⟩ := open_bool Edyg.underlying4 (hval 2 4 v2 rfl rfl) h2
  obtain ⟨a3, len3, cap3, rfl⟩ := okWide_slice Edyg.underlying22 (hval 3 22 v3 rfl rfl)
  have lt3 : ∀ x ∈ p3, x.block < W.heap.size := by obtain ⟨m, hm⟩ := h3; exact DataW.trod_lt m _ _ _ hm
  obtain ⟨S3, w3, n3⟩ := open_strRow h3
  obtain ⟨a4, len4, cap4, rfl⟩ := okWide_slice Edyg.underlying23 (hval 4 23 v4 rfl rfl)
  have lt4 : ∀ x ∈ p4, x.block < W.heap.size := by obtain ⟨m, hm⟩ := h4; exact DataW.trod_lt m _ _ _ hm
  obtain ⟨S4, w4, n4⟩ := open_intRow h4
  clear hA0 hval0
  refine (spanLaw a0 a1 a2 a3 len3 cap3 S3 a4 len4 cap4 S4 W w3 w4 n3 n4).mono fun e W' ⟨he, bel⟩ => ?_
  subst he
  exact ⟨_, rfl, _, _, _, [], _, [], hW', trodAll_mk1 (shut_bool Edyg.underlying4 _), (trodAll_cons_mk (shut_int Edyg.underlying3 w0) (trodAll_cons_mk (shut_int Edyg.underlying3 w1) (trodAll_cons_mk (shut_bool Edyg.underlying4 _) (trodAll_cons_mk (Below.trod laidOut (by kernel_rfl) (of_decide_eq_true (by kernel_rfl)) h3 bel lt3) (trodAll_cons_mk (Below.trod laidOut (by kernel_rfl) (of_decide_eq_true (by kernel_rfl)) h4 bel lt4) trodAll_mk0))))), rfl, bel.frame _, fun h => by cases h⟩

theorem span_said_over : Rows.fnIdentListSpanIsHullOfPiecesRow.holds Edyg.pinned (OpenSpec.ofChange Rows.fnIdentListSpanIsHullOfPiecesSpec) :=
  OpenClaim.holds_of_wide 3 Edyg.f3 rfl rfl rfl rfl rfl rfl rfl ⟨rfl, rfl, rfl, rfl, rfl⟩ rfl rfl rfl rfl rfl (by kernel_rfl) Edyg.func3 (by kernel_rfl)
    (of_decide_eq_true (by kernel_rfl)) (by unfold Func.isWrapper; rw [if_neg (of_decide_eq_false (by kernel_rfl))]; exact ⟨rfl, rfl⟩)
    (fun os started H enc _ => span_said_lifted os started H enc)

/-- THE STATEMENT. -/
theorem span_said : Rows.FnIdentListSpanIsHullOfPiecesSaid := span_said_over

end Go.Proofs.Yoedyw
