/-
  THE ROW OF 'Rows.FnIdentListEndDependsOnlyOnFinishSaid' (function 5), out of the law's walk (YoedywEndLaw).
-/
import Derived.Test.YoedywFrame
import Derived.Test.YoedywEndLaw
namespace Go.Proofs.Yoedyw
open Go.ChangeShapes Go.WideShapes Go.ChangeAt Go.RowKit

set_option maxRecDepth 100000 in
theorem end_said_lifted (os : Os) (started : os.Started) (H : Type) (enc : TypeId × Value → H) :
    ReturnsInHanded {} Edyg.checked os 5 .any (Rows.fnIdentListEndDependsOnlyOnFinishSpec.pre6 enc Edyg.prog Edyg.f5 Rows.fnIdentListEndDependsOnlyOnFinishRow.domain false) (Rows.fnIdentListEndDependsOnlyOnFinishSpec.post enc Edyg.prog Edyg.f5 false true false false) := by
  refine returnsInHanded_of_change (C := Edyg.checked) own started (by kernel_rfl) Edyg.func5
    (ChangeSpec.witness6 (enc := enc) (C := Edyg.checked) false ⟨#[], #[.int .i64 0, .int .i64 0, .int .i64 0, .bool false, .bool false, .slice none 0 0, .slice none 0 0, .slice none 0 0, .slice none 0 0], []⟩ 8 (by kernel_rfl) (by kernel_rfl) (by kernel_rfl) (by kernel_rfl)) ?_
  intro W base args ds gs before hval0 hW _ _
  have hval : ∀ (j : Nat) t v, Edyg.f5.params[j]? = some t → args[j]? = some v → Value.okWide Edyg.prog W .any base t v := hval0
  have hW' := hW
  obtain ⟨p, q, hA0, hV, rfl, _, _⟩ := hW
  have hA : DataW.TrodAll enc Edyg.prog W 0 (fun _ => true) true Edyg.f5.params.toList args.toList ds p := hA0
  rw [Edyg.params5] at hA hval
  obtain ⟨v0, vs0, d0, ds0, p0, q0, hargs, rfl, rfl, h0, r0⟩ := trodAll_cons hA
  obtain ⟨v1, vs1, d1, ds1, p1, q1, rfl, rfl, rfl, h1, r1⟩ := trodAll_cons r0
  obtain ⟨v2, vs2, d2, ds2, p2, q2, rfl, rfl, rfl, h2, r2⟩ := trodAll_cons r1
  obtain ⟨v3, vs3, d3, ds3, p3, q3, rfl, rfl, rfl, h3, r3⟩ := trodAll_cons r2
  obtain ⟨v4, vs4, d4, ds4, p4, q4, rfl, rfl, rfl, h4, r4⟩ := trodAll_cons r3
  obtain ⟨v5, vs5, d5, ds5, p5, q5, rfl, rfl, rfl, h5, r5⟩ := trodAll_cons r4
  obtain ⟨v6, vs6, d6, ds6, p6, q6, rfl, rfl, rfl, h6, r6⟩ := trodAll_cons r5
  obtain ⟨v7, vs7, d7, ds7, p7, q7, rfl, rfl, rfl, h7, r7⟩ := trodAll_cons r6
  obtain ⟨v8, vs8, d8, ds8, p8, q8, rfl, rfl, rfl, h8, r8⟩ := trodAll_cons r7
  obtain ⟨rfl, rfl, rfl⟩ := trodAll_nil r8
  obtain rfl : args = #[v0, v1, v2, v3, v4, v5, v6, v7, v8] := by cases args; simp_all
  obtain ⟨rfl, rfl⟩ := trodVars_none hV
  obtain ⟨a0, rfl, rfl, rfl, w0⟩ := open_int Edyg.underlying3 (hval 0 3 v0 rfl rfl) h0
  obtain ⟨a1, rfl, rfl, rfl, w1⟩ := open_int Edyg.underlying3 (hval 1 3 v1 rfl rfl) h1
  obtain ⟨a2, rfl, rfl, rfl, w2⟩ := open_int Edyg.underlying3 (hval 2 3 v2 rfl rfl) h2
  obtain ⟨a3, rfl, rfl, rfl⟩ := open_bool Edyg.underlying4 (hval 3 4 v3 rfl rfl) h3
  obtain ⟨a4, rfl, rfl, rfl⟩ := open_bool Edyg.underlying4 (hval 4 4 v4 rfl rfl) h4
  obtain ⟨a5, len5, cap5, rfl⟩ := okWide_slice Edyg.underlying22 (hval 5 22 v5 rfl rfl)
  have lt5 : ∀ x ∈ p5, x.block < W.heap.size := by obtain ⟨m, hm⟩ := h5; exact DataW.trod_lt m _ _ _ hm
  obtain ⟨S5, w5, n5⟩ := open_strRow h5
  obtain ⟨a6, len6, cap6, rfl⟩ := okWide_slice Edyg.underlying23 (hval 6 23 v6 rfl rfl)
  have lt6 : ∀ x ∈ p6, x.block < W.heap.size := by obtain ⟨m, hm⟩ := h6; exact DataW.trod_lt m _ _ _ hm
  obtain ⟨S6, w6, n6⟩ := open_intRow h6
  obtain ⟨a7, len7, cap7, rfl⟩ := okWide_slice Edyg.underlying22 (hval 7 22 v7 rfl rfl)
  have lt7 : ∀ x ∈ p7, x.block < W.heap.size := by obtain ⟨m, hm⟩ := h7; exact DataW.trod_lt m _ _ _ hm
  obtain ⟨S7, w7, n7⟩ := open_strRow h7
  obtain ⟨a8, len8, cap8, rfl⟩ := okWide_slice Edyg.underlying23 (hval 8 23 v8 rfl rfl)
  have lt8 : ∀ x ∈ p8, x.block < W.heap.size := by obtain ⟨m, hm⟩ := h8; exact DataW.trod_lt m _ _ _ hm
  obtain ⟨S8, w8, n8⟩ := open_intRow h8
  clear hA0 hval0
  refine (endLaw a0 a1 a2 a3 a4 a5 len5 cap5 S5 a6 len6 cap6 S6 a7 len7 cap7 S7 a8 len8 cap8 S8 W w5 w6 w7 w8 n5 n6 n7 n8).mono fun e W' ⟨he, bel⟩ => ?_
  subst he
  exact ⟨_, rfl, _, _, _, [], _, [], hW', trodAll_mk1 (shut_bool Edyg.underlying4 _), (trodAll_cons_mk (shut_int Edyg.underlying3 w0) (trodAll_cons_mk (shut_int Edyg.underlying3 w1) (trodAll_cons_mk (shut_int Edyg.underlying3 w2) (trodAll_cons_mk (shut_bool Edyg.underlying4 _) (trodAll_cons_mk (shut_bool Edyg.underlying4 _) (trodAll_cons_mk (Below.trod laidOut (by kernel_rfl) (of_decide_eq_true (by kernel_rfl)) h5 bel lt5) (trodAll_cons_mk (Below.trod laidOut (by kernel_rfl) (of_decide_eq_true (by kernel_rfl)) h6 bel lt6) (trodAll_cons_mk (Below.trod laidOut (by kernel_rfl) (of_decide_eq_true (by kernel_rfl)) h7 bel lt7) (trodAll_cons_mk (Below.trod laidOut (by kernel_rfl) (of_decide_eq_true (by kernel_rfl)) h8 bel lt8) trodAll_mk0))))))))), rfl, bel.frame _, fun h => by cases h⟩

theorem end_said_over : Rows.fnIdentListEndDependsOnlyOnFinishRow.holds Edyg.pinned (OpenSpec.ofChange Rows.fnIdentListEndDependsOnlyOnFinishSpec) :=
  OpenClaim.holds_of_wide 5 Edyg.f5 rfl rfl rfl rfl rfl rfl rfl ⟨rfl, rfl, rfl, rfl, rfl⟩ rfl rfl rfl rfl rfl (by kernel_rfl) Edyg.func5 (by kernel_rfl)
    (of_decide_eq_true (by kernel_rfl)) (by unfold Func.isWrapper; rw [if_neg (of_decide_eq_false (by kernel_rfl))]; exact ⟨rfl, rfl⟩)
    (fun os started H enc _ => end_said_lifted os started H enc)

/-- THE STATEMENT. -/
theorem end_said : Rows.FnIdentListEndDependsOnlyOnFinishSaid := end_said_over

end Go.Proofs.Yoedyw
