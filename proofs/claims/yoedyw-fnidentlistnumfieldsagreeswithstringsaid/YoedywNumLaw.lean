/-
  FnIdentListNumFieldsAgreesWithString (6): THE WALK.
-/
import Derived.Test.YoedywSizes
import Derived.Test.YoedywZz
import Derived.Test.YoedywNames
import Derived.Test.YoedywString
import Derived.Test.YoedywPosEnd
import Derived.Test.YoedywCommas
namespace Go.Proofs.Yoedyw
open Go.RowKit

set_option maxHeartbeats 2000000 in
theorem numLaw (va : Bool) (a : Option Addr) (n c : Nat) (S : Nat → ByteArray) (w : World) (hr : StrRow w a n S) (hn : n ≤ 9223372036854775807) :
    Calls Edyg.prog 6 #[.bool va, .slice a n c] w (Holds w) := by
  go_enter Edyg.func6, Edyg.ntmps6
  go_wp2_with fail
  refine (zz21 va a n c S w hr hn).mono ?_
  rintro e w' ⟨t, rfl, rfl, ht⟩
  match t, ht with
  | false, _ =>
    go_wp2
    go_ret
    exact ⟨rfl, Below.refl _ _⟩
  | true, ht =>
  have q1 := ht rfl
  clear ht
  go_wp2_with fail
  refine (namesSize_any a n c S w hr (by omega)).mono ?_
  rintro e w' ⟨t1, rfl, rfl, u1, u2, u3⟩
  by_cases hs : 1048576 < t1
  · go_wp2
    go_ret
    exact ⟨rfl, Below.refl _ _⟩
  clear u3
  go_wp2_with fail
  refine (decodable_any a n c S w hr (by omega) (by omega)).mono ?_
  rintro e w' ⟨t, rfl, rfl, ht⟩
  match t, ht with
  | false, _ =>
    go_wp2
    go_ret
    exact ⟨rfl, Below.refl _ _⟩
  | true, ht =>
  have HG : Hid (Goods S n) := ht rfl
  clear ht
  go_wp2_with fail
  refine (cloneStrings_any _ _ _ S w hr (by omega)).mono ?_
  rintro e w1 ⟨a', c', rfl, r1, k1⟩
  go_wp2_with fail
  refine (names_any va _ _ _ S w1 r1 (by omega)).mono ?_
  rintro e w2 ⟨p, rfl, L, k2⟩
  go_wp2_with fail
  refine (string_any p 0 0 va n S _ w2 L (by omega) (by omega)).mono ?_
  rintro e w3 ⟨rfl, k3⟩
  have L3 := L.later k3
  have j3 := chain (chain k1 k2) k3
  clear r1 k1 k2 k3 L
  have hn1 : n ≤ 1048576 := by omega
  have HB : Hid ((textOf va n S).size ≤ 4194304) := by
    show _ ≤ _
    rw [textOf_size]
    have := inner_le va n S
    omega
  have H0 : Hid (n = 0 → (textOf va n S).toList = [40, 41]) := by
    intro h
    subst h
    simp [textOf, inner_zero]
  have H1 : Hid (0 < n → commas (textOf va n S).data.toList + 1 = n ∧ 3 ≤ (textOf va n S).size) := fun h => ⟨commas_text va n S h HG.out, text_long va n S h HG.out⟩
  clear q1 hn HG
  generalize textOf va n S = T at HB H0 H1 ⊢
  have hB : T.size ≤ 4194304 := HB.out
  clear HB
  go_wp2_with fail
  go_loop [7, 8] (fun z i => ∃ k : Nat, k ≤ T.size ∧ i = .int .i64 k ∧ z = .int .i64 ((commas (T.data.toList.take k) : Nat) : Int)) (fun _ i => T.size - (intOf i).toNat)
  case atStart => exact ⟨0, Nat.zero_le _, rfl, rfl⟩
  case round =>
    obtain ⟨k, hk, rfl, rfl⟩ := hrel
    have hz : commas (T.data.toList.take k) ≤ 4194304 := by
      have h1 := commas_le (T.data.toList.take k)
      rw [List.length_take] at h1
      omega
    by_cases hlt : k < T.size
    · have HN : Hid (commas (T.data.toList.take (k + 1)) = commas (T.data.toList.take k) + (if (T[k]'hlt) = 44 then 1 else 0)) := commas_take T k hlt
      generalize commas (T.data.toList.take k) = z at hz HN ⊢
      go_wp2
      · go_round
        case rel =>
          have hq : (((T[k]'hlt).toNat : Int) == 44) = true := by assumption
          have e : (T[k]'hlt) = 44 := by
            have h1 : ((T[k]'hlt).toNat : Int) = 44 := by simpa using hq
            apply UInt8.toNat_inj.1
            have h2 : (44 : UInt8).toNat = 44 := rfl
            omega
          refine ⟨k + 1, by omega, by go_num, ?_⟩
          rw [HN.out, if_pos e]
          go_num
        case measure => simp [intOf]; omega
      · go_round
        case rel =>
          have hq : (((T[k]'hlt).toNat : Int) == 44) = false := by assumption
          have e : ¬ (T[k]'hlt) = 44 := by
            intro e
            rw [e] at hq
            simp at hq
          refine ⟨k + 1, by omega, by go_num, ?_⟩
          rw [HN.out, if_neg e]
          rfl
        case measure => simp [intOf]; omega
    · obtain rfl : k = T.size := by omega
      have HA : Hid (T.data.toList.take T.size = T.data.toList) := by show _ = _; rw [← length_bytes, List.take_length]
      rw [HA.out] at hz ⊢
      generalize commas T.data.toList = z at hz H1 ⊢
      go_wp2_with fail
      refine (listNum_any p 0 0 va n S _ w3 L3).mono ?_
      rintro e w' ⟨rfl, rfl⟩
      by_cases h0 : n = 0
      · have hT := H0.out h0
        subst h0
        go_wp2
        go_ret
        exact ⟨by simp, j3⟩
      · obtain ⟨e1, e2⟩ := H1.out (by omega)
        have d0 : ((n : Int) == 0) = false := by simpa using h0
        have d1 : ((n : Int) == (z : Int) + 1) = true := by simp; omega
        have d2 : (T.toList == [40, 41]) = false := by
          rw [beq_eq_false_iff_ne]
          intro e
          have := congrArg List.length e
          rw [ByteArray.toList_eq, length_bytes] at this
          simp at this
          omega
        clear e1 e2
        go_wp2
        go_ret
        exact ⟨by simp, j3⟩

end Go.Proofs.Yoedyw
