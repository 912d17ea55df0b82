/-
  FnIdentListEndDependsOnlyOnFinish (5): THE WALK.
-/
import Derived.Test.YoedywSizes
import Derived.WideShapes
import Derived.Test.YoedywZz20
import Derived.Test.YoedywClone
import Derived.Test.YoedywBuild
import Derived.Test.YoedywPosEnd
namespace Go.Proofs.Yoedyw
open Go.RowKit

theorem str_ne {s t : ByteArray} (h : ¬ s = t) : (s.toList == t.toList) = false := by
  rw [beq_eq_false_iff_ne]
  intro e
  rw [ByteArray.toList_eq, ByteArray.toList_eq] at e
  exact h (Go.WideShapes.bytes_inj e)

set_option maxHeartbeats 2000000 in
theorem endLaw (rp lp lp2 : Int) (va va2 : Bool) (a : Option Addr) (n c : Nat) (S : Nat → ByteArray) (a1 : Option Addr) (n1 c1 : Nat) (Z : Nat → Int) (a2 : Option Addr) (n2 c2 : Nat) (S2 : Nat → ByteArray) (a3 : Option Addr) (n3 c3 : Nat) (Z3 : Nat → Int) (w : World)
    (hr : StrRow w a n S) (hi : IntRow w a1 n1 Z) (hr2 : StrRow w a2 n2 S2) (hi3 : IntRow w a3 n3 Z3) (hn : n ≤ 9223372036854775807) (hn1 : n1 ≤ 9223372036854775807) (hn2 : n2 ≤ 9223372036854775807) (hn3 : n3 ≤ 9223372036854775807) :
    Calls Edyg.prog 5 #[.int .i64 rp, .int .i64 lp, .int .i64 lp2, .bool va, .bool va2, .slice a n c, .slice a1 n1 c1, .slice a2 n2 c2, .slice a3 n3 c3] w (Holds w) := by
  go_enter Edyg.func5, Edyg.ntmps5
  go_wp2_with fail
  refine (zz20 rp lp lp2 va va2 a n c S a1 n1 c1 a2 n2 c2 S2 a3 n3 c3 w hr hr2 hn hn1 hn2 hn3).mono ?_
  rintro e w' ⟨t, rfl, rfl, ht⟩
  match t, ht with
  | false, _ =>
    go_wp2
    go_ret
    exact ⟨rfl, Below.refl _ _⟩
  | true, ht =>
  obtain ⟨q1, q2⟩ := ht rfl
  clear ht
  go_wp2_with fail
  refine (namesSize_any a n c S w hr (by omega)).mono ?_
  rintro e w' ⟨t1, rfl, rfl, u1, u2, u3⟩
  go_wp2_with fail
  refine (intsSize_any a1 n1 c1 w).mono ?_
  rintro e w' ⟨t2, rfl, rfl, v1, v2, v3⟩
  go_wp2_with fail
  refine (namesSize_any a2 n2 c2 S2 w hr2 (by omega)).mono ?_
  rintro e w' ⟨t3, rfl, rfl, x1, x2, x3⟩
  go_wp2_with fail
  refine (intsSize_any a3 n3 c3 w).mono ?_
  rintro e w' ⟨t4, rfl, rfl, y1, y2, y3⟩
  by_cases hs : 1048576 < t1 + t2 + t3 + t4
  · go_wp2
    go_ret
    exact ⟨rfl, Below.refl _ _⟩
  have b1 : 16 * n + tot S n ≤ 1048576 := by have := u3 (by omega); omega
  have b2 : 16 * n2 + tot S2 n2 ≤ 1048576 := by have := x3 (by omega); omega
  clear u3 v3 x3 y3 q1 q2
  by_cases e1 : n1 = n
  case neg =>
    go_wp2_with fail
    go_ret
    exact ⟨rfl, Below.refl _ _⟩
  subst e1
  by_cases e3 : n3 = n2
  case neg =>
    go_wp2_with fail
    go_ret
    exact ⟨rfl, Below.refl _ _⟩
  subst e3
  by_cases z1 : n1 = 0
  · by_cases z3 : n3 = 0
    · subst z1
      subst z3
      have HI : Hid (IntRow w a1 0 Z) := hi
      have HI3 : Hid (IntRow w a3 0 Z3) := hi3
      have HP : Hid (endOf rp 0 S Z = endOf rp 0 S2 Z3) := by show _ = _; simp [endOf]
      go_wp2_with fail
      have hb0 : Below w.heap.size w w := Below.refl _ _
      refine (cloneStrings_any _ _ _ S w (hr.later hb0) (by omega)).mono ?_
      rintro e w1 ⟨a', c', rfl, r1, k1⟩
      have j1 := chain hb0 k1
      go_wp2_with fail
      refine (cloneInts_any _ _ _ Z w1 (HI.out.later j1) (by omega)).mono ?_
      rintro e w2 ⟨a1', c1', rfl, r2, k2⟩
      have j2 := chain j1 k2
      go_wp2_with fail
      refine (cloneStrings_any _ _ _ S2 w2 (hr2.later j2) (by omega)).mono ?_
      rintro e w3 ⟨a2', c2', rfl, r3, k3⟩
      have j3 := chain j2 k3
      go_wp2_with fail
      refine (cloneInts_any _ _ _ Z3 w3 (HI3.out.later j3) (by omega)).mono ?_
      rintro e w4 ⟨a3', c3', rfl, r4, k4⟩
      have j4 := chain j3 k4
      go_wp2_with fail
      refine (build_any lp rp va _ _ _ _ _ S Z w4 (((r1.later k2).later k3).later k4) ((r2.later k3).later k4) (by omega)).mono ?_
      rintro e w5 ⟨p, rfl, L1, k5⟩
      have j5 := chain j4 k5
      go_wp2_with fail
      refine (build_any lp2 rp va2 _ _ _ _ _ S2 Z3 w5 ((r3.later k4).later k5) (r4.later k5) (by omega)).mono ?_
      rintro e w6 ⟨p2, rfl, L2, k6⟩
      have j6 := chain j5 k6
      go_wp2_with fail
      refine (listEnd_any p lp rp va _ S Z w6 (L1.later k6) (by omega)).mono ?_
      rintro e w7 ⟨rfl, k7⟩
      go_wp2_with fail
      refine (listEnd_any p2 lp2 rp va2 _ S2 Z3 w7 (L2.later k7) (by omega)).mono ?_
      rintro e w8 ⟨rfl, k8⟩
      rw [← HP.out]
      go_wp2
      go_ret
      exact ⟨by simp, chain (chain j6 k7) k8⟩
    · subst z1
      have d3 : ((n3 : Int) == 0) = false := by simpa using z3
      go_wp2_with fail
      go_ret
      exact ⟨rfl, Below.refl _ _⟩
  · by_cases z3 : n3 = 0
    · subst z3
      have d1 : ((n1 : Int) == 0) = false := by simpa using z1
      go_wp2_with fail
      go_ret
      exact ⟨rfl, Below.refl _ _⟩
    · have HI : Hid (IntRow w a1 n1 Z) := hi
      have HI3 : Hid (IntRow w a3 n3 Z3) := hi3
      have HR : Hid (StrRow w a n1 S) := hr
      have HR2 : Hid (StrRow w a2 n3 S2) := hr2
      obtain ⟨m, rfl⟩ : ∃ m, n1 = m + 1 := ⟨n1 - 1, by omega⟩
      obtain ⟨m3, rfl⟩ : ∃ m3, n3 = m3 + 1 := ⟨n3 - 1, by omega⟩
      rcases hi with h | ⟨bk, off, rfl, hc⟩
      · omega
      rcases hi3 with h | ⟨bk3, off3, rfl, hc3⟩
      · omega
      rcases hr with h | ⟨bs, offs, rfl, hcs⟩
      · omega
      rcases hr2 with h | ⟨bs2, offs2, rfl, hcs2⟩
      · omega
      have cell1 := hc m (by omega)
      have cell3 := hc3 m3 (by omega)
      have cells1 := hcs m (by omega)
      have cells3 := hcs2 m3 (by omega)
      obtain ⟨z, hz⟩ : ∃ z, z = Z m := ⟨_, rfl⟩
      obtain ⟨z', hz'⟩ : ∃ z', z' = Z3 m3 := ⟨_, rfl⟩
      obtain ⟨s, hs1⟩ : ∃ s, s = S m := ⟨_, rfl⟩
      obtain ⟨s', hs'⟩ : ∃ s', s' = S2 m3 := ⟨_, rfl⟩
      rw [← hz] at cell1
      rw [← hz'] at cell3
      rw [← hs1] at cells1
      rw [← hs'] at cells3
      have HZ : Hid (z = Z m) := hz
      have HZ3 : Hid (z' = Z3 m3) := hz'
      have HS : Hid (s = S m) := hs1
      have HS3 : Hid (s' = S2 m3) := hs'
      clear hc hc3 hz hz' hcs hcs2 hs1 hs'
      have b1m : 16 * (m + 1) ≤ 1048576 := by omega
      have b2m : 16 * (m3 + 1) ≤ 1048576 := by omega
      clear b1 b2
      by_cases hss : s = s'
      case neg =>
        have hsn := str_ne hss
        go_wp2_with fail
        go_quiet (fail)
        go_wp2_with fail
        go_ret
        exact ⟨rfl, below_drewN (Below.refl _ _) _⟩
      subst hss
      by_cases hzz : z = z'
      case neg =>
        have hne : (z != z') = true := by simpa using hzz
        go_wp2_with fail
        go_quiet (fail)
        go_wp2_with fail
        go_ret
        exact ⟨rfl, below_drewN (Below.refl _ _) _⟩
      subst hzz
      have HP : Hid (endOf rp (m + 1) S Z = endOf rp (m3 + 1) S2 Z3) := by
        show _ = _
        simp only [endOf, if_neg z1, if_neg z3, Nat.add_sub_cancel, ← HZ.out, ← HZ3.out, ← HS.out, ← HS3.out]
      go_wp2_with fail
      go_quiet (fail)
      go_wp2_with fail
      have hb0 : Below w.heap.size w (w.drewN nq) := below_drewN (Below.refl _ _) nq
      generalize w.drewN nq = w0 at hb0 ⊢
      refine (cloneStrings_any _ _ _ S w0 (HR.out.later hb0) (by omega)).mono ?_
      rintro e w1 ⟨a', c', rfl, r1, k1⟩
      have j1 := chain hb0 k1
      go_wp2_with fail
      refine (cloneInts_any _ _ _ Z w1 (HI.out.later j1) (by omega)).mono ?_
      rintro e w2 ⟨a1', c1', rfl, r2, k2⟩
      have j2 := chain j1 k2
      go_wp2_with fail
      refine (cloneStrings_any _ _ _ S2 w2 (HR2.out.later j2) (by omega)).mono ?_
      rintro e w3 ⟨a2', c2', rfl, r3, k3⟩
      have j3 := chain j2 k3
      go_wp2_with fail
      refine (cloneInts_any _ _ _ Z3 w3 (HI3.out.later j3) (by omega)).mono ?_
      rintro e w4 ⟨a3', c3', rfl, r4, k4⟩
      have j4 := chain j3 k4
      go_wp2_with fail
      refine (build_any lp rp va _ _ _ _ _ S Z w4 (((r1.later k2).later k3).later k4) ((r2.later k3).later k4) (by omega)).mono ?_
      rintro e w5 ⟨p, rfl, L1, k5⟩
      have j5 := chain j4 k5
      go_wp2_with fail
      refine (build_any lp2 rp va2 _ _ _ _ _ S2 Z3 w5 ((r3.later k4).later k5) (r4.later k5) (by omega)).mono ?_
      rintro e w6 ⟨p2, rfl, L2, k6⟩
      have j6 := chain j5 k6
      go_wp2_with fail
      refine (listEnd_any p lp rp va _ S Z w6 (L1.later k6) (by omega)).mono ?_
      rintro e w7 ⟨rfl, k7⟩
      go_wp2_with fail
      refine (listEnd_any p2 lp2 rp va2 _ S2 Z3 w7 (L2.later k7) (by omega)).mono ?_
      rintro e w8 ⟨rfl, k8⟩
      rw [← HP.out]
      go_wp2
      go_ret
      exact ⟨by simp, chain (chain j6 k7) k8⟩
end Go.Proofs.Yoedyw
