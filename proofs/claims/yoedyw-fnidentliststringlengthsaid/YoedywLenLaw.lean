/-
  FnIdentListStringLength (8): THE WALK.
-/
import Derived.Test.YoedywSizes
import Derived.Test.YoedywZz
import Derived.Test.YoedywNames
import Derived.Test.YoedywString
namespace Go.Proofs.Yoedyw
open Go.RowKit

set_option maxHeartbeats 2000000 in
theorem lenLaw (va : Bool) (a : Option Addr) (n c : Nat) (S : Nat → ByteArray) (w : World) (hr : StrRow w a n S) (hn : n ≤ 9223372036854775807) :
    Calls Edyg.prog 8 #[.bool va, .slice a n c] w (Holds w) := by
  go_enter Edyg.func8, Edyg.ntmps8
  go_wp2_with fail
  refine (zz27 va a n c S w hr hn).mono ?_
  rintro e w' ⟨t, rfl, rfl, ht⟩
  match t, ht with
  | false, _ =>
    go_wp2
    go_ret
    exact ⟨rfl, Below.refl _ _⟩
  | true, ht =>
  have q1 := ht rfl
  clear ht
  go_wp2_with fail
  refine (namesSize_any a n c S w hr (by omega)).mono ?_
  rintro e w' ⟨t1, rfl, rfl, u1, u2, u3⟩
  by_cases hs : 1048576 < t1
  · go_wp2
    go_ret
    exact ⟨rfl, Below.refl _ _⟩
  clear u3
  go_wp2_with fail
  refine (cloneStrings_any _ _ _ S w hr (by omega)).mono ?_
  rintro e w1 ⟨a', c', rfl, r1, k1⟩
  go_wp2_with fail
  refine (names_any va _ _ _ S w1 r1 (by omega)).mono ?_
  rintro e w2 ⟨p, rfl, L, k2⟩
  have r2 := r1.later k2
  have j2 := chain k1 k2
  clear r1 k1 k2
  have HQ : Hid (n + tot S n ≤ 1048576) := q1
  have hn1 : n ≤ 1048576 := by omega
  clear q1 hn
  rcases r2 with h0 | ⟨b, o, rfl, hcs⟩
  · subst h0
    have HX : Hid ((textOf va 0 S).size = 2) := by show _ = _; rw [textOf_size, inner_zero]; rfl
    go_wp2_with fail
    refine wp_loop_rounds 1 ?_
    rw [rounds_succ]
    go_wp2_with fail
    refine (string_any p 0 0 va 0 S _ w2 L (by omega) (by simp [tot])).mono ?_
    rintro e w3 ⟨rfl, k3⟩
    generalize textOf va 0 S = T at HX ⊢
    have hT : (T.size : Int) = 2 := by have := HX.out; omega
    go_wp2
    go_ret
    exact ⟨by simp, chain j2 k3⟩
  · by_cases h0 : n = 0
    · subst h0
      have HX : Hid ((textOf va 0 S).size = 2) := by show _ = _; rw [textOf_size, inner_zero]; rfl
      go_wp2_with fail
      refine wp_loop_rounds 1 ?_
      rw [rounds_succ]
      go_wp2_with fail
      refine (string_any p 0 0 va 0 S _ w2 L (by omega) (by simp [tot])).mono ?_
      rintro e w3 ⟨rfl, k3⟩
      generalize textOf va 0 S = T at HX ⊢
      have hT : (T.size : Int) = 2 := by have := HX.out; omega
      go_wp2
      go_ret
      exact ⟨by simp, chain j2 k3⟩
    go_wp2_with fail
    go_loop [6, 7] (fun z i => ∃ k : Nat, k ≤ n ∧ i = .int .i64 k ∧ z = .int .i64 ((2 + tot S k : Nat) : Int)) (fun _ i => n - (intOf i).toNat)
    case atStart => exact ⟨0, Nat.zero_le _, rfl, by simp [tot]⟩
    case round =>
      obtain ⟨k, hk, rfl, rfl⟩ := hrel
      have hz : 2 + tot S k ≤ 1048578 := by have := HQ.out; have := tot_mono S hk; omega
      obtain ⟨z, hzz⟩ : ∃ z, z = 2 + tot S k := ⟨_, rfl⟩
      rw [← hzz] at hz ⊢
      have HZ : Hid (z = 2 + tot S k) := hzz
      clear hzz
      by_cases hlt : k < n
      · have hcell := hcs k hlt
        have hs1 : (S k).size ≤ 1048576 := by have := size_le_tot S hlt; have := HQ.out; omega
        obtain ⟨s, hs⟩ : ∃ s, s = S k := ⟨_, rfl⟩
        rw [← hs] at hcell hs1
        have HS : Hid (s = S k) := hs
        clear hs hcs
        go_wp2
        go_round
        case rel =>
          have e1 := HS.out
          have e2 := HZ.out
          refine ⟨k + 1, by omega, by go_num, ?_⟩
          rw [tot_succ, ← e1, ← Nat.add_assoc, ← e2]; go_num
        case measure => simp [intOf]; omega
      · obtain rfl : k = n := by omega
        have HX : Hid ((textOf va k S).size = z + 2 * (k - 1) + (if va = true then 3 else 0)) := by
          show _ = _
          have := HZ.out
          rw [textOf_size, inner_length va k S (by omega)]
          omega
        have hk0 : 0 < k := by omega
        have hk0' : (0 : Int) < (k : Int) := by omega
        match va, HX, L with
        | false, HX, L =>
          go_wp2_with fail
          refine (string_any p 0 0 false k S _ w2 L (by omega) (by have := HQ.out; omega)).mono ?_
          rintro e w3 ⟨rfl, k3⟩
          generalize textOf false k S = T at HX ⊢
          have hT : (T.size : Int) = (z : Int) + 2 * ((k : Int) - 1) := by have := HX.out; simp at this; omega
          go_wp2
          go_ret
          exact ⟨by simp, chain j2 k3⟩
        | true, HX, L =>
          go_wp2_with fail
          refine (string_any p 0 0 true k S _ w2 L (by omega) (by have := HQ.out; omega)).mono ?_
          rintro e w3 ⟨rfl, k3⟩
          generalize textOf true k S = T at HX ⊢
          have hT : (T.size : Int) = (z : Int) + 2 * ((k : Int) - 1) + 3 := by have := HX.out; simp at this; omega
          go_wp2
          go_ret
          exact ⟨by simp, chain j2 k3⟩

end Go.Proofs.Yoedyw
