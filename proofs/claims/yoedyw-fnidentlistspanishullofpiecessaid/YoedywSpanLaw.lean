/-
  FnIdentListSpanIsHullOfPieces (3): THE WALK.
-/
import Derived.Test.YoedywSizes
import Derived.Test.YoedywZz9
import Derived.Test.YoedywClone
import Derived.Test.YoedywBuild
import Derived.Test.YoedywHull
namespace Go.Proofs.Yoedyw
open Go.RowKit

theorem Laid.nonneg {lp : Int} {S : Nat → ByteArray} {Z : Nat → Int} {n : Nat} (_h0 : 0 ≤ lp) (hl : Laid lp S Z n) : ∀ j, j < n → 0 ≤ Z j := by
  intro j
  induction j with
  | zero => intro hj; have := (hl 0 hj).1; simp only [nxt] at this; split at this <;> omega
  | succ j ih => intro hj; have h1 := (hl (j + 1) hj).1; have h2 := ih (by omega); simp only [nxt] at h1; omega

set_option maxHeartbeats 2000000 in
theorem spanLaw (lp rp : Int) (va : Bool) (a : Option Addr) (n c : Nat) (S : Nat → ByteArray) (a1 : Option Addr) (n1 c1 : Nat) (Z : Nat → Int) (w : World)
    (hr : StrRow w a n S) (hi : IntRow w a1 n1 Z) (hn : n ≤ 9223372036854775807) (hn1 : n1 ≤ 9223372036854775807) :
    Calls Edyg.prog 3 #[.int .i64 lp, .int .i64 rp, .bool va, .slice a n c, .slice a1 n1 c1] w (Holds w) := by
  go_enter Edyg.func3, Edyg.ntmps3
  go_wp2_with fail
  refine (zz9 lp rp va a n c S a1 n1 c1 w hr hn hn1).mono ?_
  rintro e w' ⟨t, rfl, rfl, ht⟩
  match t, ht with
  | false, _ =>
    go_wp2
    go_ret
    exact ⟨rfl, Below.refl _ _⟩
  | true, ht =>
  have q1 := ht rfl
  clear ht
  go_wp2_with fail
  refine (namesSize_any a n c S w hr (by omega)).mono ?_
  rintro e w' ⟨t1, rfl, rfl, u1, u2, u3⟩
  go_wp2_with fail
  refine (intsSize_any a1 n1 c1 w).mono ?_
  rintro e w' ⟨t2, rfl, rfl, v1, v2, v3⟩
  by_cases hs : 1048576 < t1 + t2
  · go_wp2
    go_ret
    exact ⟨rfl, Below.refl _ _⟩
  clear u3 v3
  go_wp2_with fail
  refine (laid_any lp rp a n c S a1 n1 c1 Z w hr hi (by omega) (by omega)).mono ?_
  rintro e w' ⟨t, rfl, rfl, hw⟩
  match t, hw with
  | false, _ =>
    go_wp2
    go_ret
    exact ⟨rfl, Below.refl _ _⟩
  | true, hw =>
  have HW : Hid (WellLaid lp rp n n1 S Z) := hw rfl
  clear hw
  obtain rfl : n1 = n := HW.out.1
  go_wp2_with fail
  refine (cloneStrings_any _ _ _ S w hr (by omega)).mono ?_
  rintro e w1 ⟨a', c', rfl, r1, k1⟩
  go_wp2_with fail
  refine (cloneInts_any _ _ _ Z w1 (hi.later k1) (by omega)).mono ?_
  rintro e w2 ⟨a1', c1', rfl, r2, k2⟩
  have r1' := r1.later k2
  have j2 := chain k1 k2
  clear r1 k1 k2
  -- THE REST
  by_cases h0 : n1 = 0
  · subst h0
    by_cases hlp : 0 < lp
    · have hlb := HW.out.2.2.1
      go_wp2_with fail
      refine (hullAdd_any false 0 0 lp (lp + 1) _).mono ?_
      rintro e w' ⟨rfl, hww⟩
      rw [hww]
      clear hww w'
      go_wp2_with fail
      go_loopw [11, 12, 13, 14] (fun hvv lov hiv i wr => ∃ (k : Nat) (hv : Bool) (lo hx : Int), k ≤ 0 ∧ i = .int .i64 k ∧ hvv = .bool hv ∧ lov = .int .i64 lo ∧ hiv = .int .i64 hx ∧ Hull lp S Z k hv lo hx ∧ Below w2.heap.size w2 wr) (fun _ _ _ i _ => 0 - (intOf i).toNat)
      case atStart => exact ⟨0, true, _, _, Nat.zero_le _, rfl, rfl, rfl, rfl, Hull.paren hlp, Below.refl _ _⟩
      case round =>
        obtain ⟨k, hv, lo, hx, hk, rfl, rfl, rfl, rfl, hhull, hb⟩ := hrel
        by_cases hlt : k < 0
        · omega
        · obtain rfl : k = 0 := by omega
          have HH : Hid (Hull lp S Z 0 hv lo hx) := hhull
          clear hhull
          by_cases hrp : 0 < rp
          · have hf := Hull.shut HW.out hrp HH.out
            have hrb := HW.out.2.2.2.2.1
            have F1 : Hid (hullLo hv lo rp = posOf lp 0 Z) := hf.1
            have F2 : Hid (hullHi hv hx (rp + 1) = endOf rp 0 S Z) := hf.2
            clear hf
            go_wp2_with fail
            refine (hullAdd_any hv lo hx rp (rp + 1) _).mono ?_
            rintro e w' ⟨rfl, hww⟩
            rw [hww]
            clear hww w'
            rw [F1.out, F2.out]
            go_wp2_with fail
            refine (build_any lp rp va _ _ _ _ _ S Z _ (StrRow.later r1' hb) (IntRow.later r2 hb) (by omega)).mono ?_
            rintro e w5 ⟨p, rfl, L, k5⟩
            go_wp2_with fail
            refine (listPos_any p lp rp va _ S Z w5 L (by omega)).mono ?_
            rintro e w' ⟨rfl, rfl⟩
            go_wp2_with fail
            refine (listEnd_any p lp rp va _ S Z w5 L (by omega)).mono ?_
            rintro e w6 ⟨rfl, k6⟩
            go_wp2
            go_ret
            exact ⟨by simp, chain (chain (chain j2 hb) k5) k6⟩
          · obtain rfl : rp = 0 := by have := HW.out.2.2.2.1; omega
            have hf := Hull.open_ HW.out (by omega) HH.out
            match hv, HH, hf with
            | false, HH, hf =>
              have F1 : Hid (posOf lp 0 Z = 0) := (hf.2 rfl).1
              have F2 : Hid (endOf 0 0 S Z = 0) := (hf.2 rfl).2
              clear hf
              go_wp2_with fail
              refine (build_any lp 0 va _ _ _ _ _ S Z _ (StrRow.later r1' hb) (IntRow.later r2 hb) (by omega)).mono ?_
              rintro e w5 ⟨p, rfl, L, k5⟩
              go_wp2_with fail
              refine (listPos_any p lp 0 va _ S Z w5 L (by omega)).mono ?_
              rintro e w' ⟨rfl, rfl⟩
              rw [F1.out]
              go_wp2_with fail
              refine (listEnd_any p lp 0 va _ S Z w5 L (by omega)).mono ?_
              rintro e w6 ⟨rfl, k6⟩
              rw [F2.out]
              go_wp2
              go_ret
              exact ⟨by simp, chain (chain (chain j2 hb) k5) k6⟩
            | true, HH, hf =>
              obtain ⟨e1, e2⟩ := hf.1 rfl
              clear hf HH
              rw [e1, e2]
              clear e1 e2
              go_wp2_with fail
              refine (build_any lp 0 va _ _ _ _ _ S Z _ (StrRow.later r1' hb) (IntRow.later r2 hb) (by omega)).mono ?_
              rintro e w5 ⟨p, rfl, L, k5⟩
              go_wp2_with fail
              refine (listPos_any p lp 0 va _ S Z w5 L (by omega)).mono ?_
              rintro e w' ⟨rfl, rfl⟩
              go_wp2_with fail
              refine (listEnd_any p lp 0 va _ S Z w5 L (by omega)).mono ?_
              rintro e w6 ⟨rfl, k6⟩
              go_wp2
              go_ret
              exact ⟨by simp, chain (chain (chain j2 hb) k5) k6⟩

    · have hlp' : decide (0 < lp) = false := decide_eq_false hlp
      have HLP : Hid (¬ 0 < lp) := hlp
      go_wp2_with fail
      go_loopw [11, 12, 13, 14] (fun hvv lov hiv i wr => ∃ (k : Nat) (hv : Bool) (lo hx : Int), k ≤ 0 ∧ i = .int .i64 k ∧ hvv = .bool hv ∧ lov = .int .i64 lo ∧ hiv = .int .i64 hx ∧ Hull lp S Z k hv lo hx ∧ Below w2.heap.size w2 wr) (fun _ _ _ i _ => 0 - (intOf i).toNat)
      case atStart => exact ⟨0, false, 0, 0, Nat.zero_le _, rfl, rfl, rfl, rfl, Hull.none (by have := HLP.out; omega), Below.refl _ _⟩
      case round =>
        obtain ⟨k, hv, lo, hx, hk, rfl, rfl, rfl, rfl, hhull, hb⟩ := hrel
        by_cases hlt : k < 0
        · omega
        · obtain rfl : k = 0 := by omega
          have HH : Hid (Hull lp S Z 0 hv lo hx) := hhull
          clear hhull
          by_cases hrp : 0 < rp
          · have hf := Hull.shut HW.out hrp HH.out
            have hrb := HW.out.2.2.2.2.1
            have F1 : Hid (hullLo hv lo rp = posOf lp 0 Z) := hf.1
            have F2 : Hid (hullHi hv hx (rp + 1) = endOf rp 0 S Z) := hf.2
            clear hf
            go_wp2_with fail
            refine (hullAdd_any hv lo hx rp (rp + 1) _).mono ?_
            rintro e w' ⟨rfl, hww⟩
            rw [hww]
            clear hww w'
            rw [F1.out, F2.out]
            go_wp2_with fail
            refine (build_any lp rp va _ _ _ _ _ S Z _ (StrRow.later r1' hb) (IntRow.later r2 hb) (by omega)).mono ?_
            rintro e w5 ⟨p, rfl, L, k5⟩
            go_wp2_with fail
            refine (listPos_any p lp rp va _ S Z w5 L (by omega)).mono ?_
            rintro e w' ⟨rfl, rfl⟩
            go_wp2_with fail
            refine (listEnd_any p lp rp va _ S Z w5 L (by omega)).mono ?_
            rintro e w6 ⟨rfl, k6⟩
            go_wp2
            go_ret
            exact ⟨by simp, chain (chain (chain j2 hb) k5) k6⟩
          · obtain rfl : rp = 0 := by have := HW.out.2.2.2.1; omega
            have hf := Hull.open_ HW.out (by omega) HH.out
            match hv, HH, hf with
            | false, HH, hf =>
              have F1 : Hid (posOf lp 0 Z = 0) := (hf.2 rfl).1
              have F2 : Hid (endOf 0 0 S Z = 0) := (hf.2 rfl).2
              clear hf
              go_wp2_with fail
              refine (build_any lp 0 va _ _ _ _ _ S Z _ (StrRow.later r1' hb) (IntRow.later r2 hb) (by omega)).mono ?_
              rintro e w5 ⟨p, rfl, L, k5⟩
              go_wp2_with fail
              refine (listPos_any p lp 0 va _ S Z w5 L (by omega)).mono ?_
              rintro e w' ⟨rfl, rfl⟩
              rw [F1.out]
              go_wp2_with fail
              refine (listEnd_any p lp 0 va _ S Z w5 L (by omega)).mono ?_
              rintro e w6 ⟨rfl, k6⟩
              rw [F2.out]
              go_wp2
              go_ret
              exact ⟨by simp, chain (chain (chain j2 hb) k5) k6⟩
            | true, HH, hf =>
              obtain ⟨e1, e2⟩ := hf.1 rfl
              clear hf HH
              rw [e1, e2]
              clear e1 e2
              go_wp2_with fail
              refine (build_any lp 0 va _ _ _ _ _ S Z _ (StrRow.later r1' hb) (IntRow.later r2 hb) (by omega)).mono ?_
              rintro e w5 ⟨p, rfl, L, k5⟩
              go_wp2_with fail
              refine (listPos_any p lp 0 va _ S Z w5 L (by omega)).mono ?_
              rintro e w' ⟨rfl, rfl⟩
              go_wp2_with fail
              refine (listEnd_any p lp 0 va _ S Z w5 L (by omega)).mono ?_
              rintro e w6 ⟨rfl, k6⟩
              go_wp2
              go_ret
              exact ⟨by simp, chain (chain (chain j2 hb) k5) k6⟩


  · rcases r1' with h | ⟨b, o, rfl, hcs⟩
    · omega
    rcases r2 with h | ⟨b1, o1, rfl, hcz⟩
    · omega
    by_cases hlp : 0 < lp
    · have hlb := HW.out.2.2.1
      go_wp2_with fail
      refine (hullAdd_any false 0 0 lp (lp + 1) _).mono ?_
      rintro e w' ⟨rfl, hww⟩
      rw [hww]
      clear hww w'
      go_wp2_with fail
      go_loopw [11, 12, 13, 14] (fun hvv lov hiv i wr => ∃ (k : Nat) (hv : Bool) (lo hx : Int), k ≤ n1 ∧ i = .int .i64 k ∧ hvv = .bool hv ∧ lov = .int .i64 lo ∧ hiv = .int .i64 hx ∧ Hull lp S Z k hv lo hx ∧ Below w2.heap.size w2 wr) (fun _ _ _ i _ => n1 - (intOf i).toNat)
      case atStart => exact ⟨0, true, _, _, Nat.zero_le _, rfl, rfl, rfl, rfl, Hull.paren hlp, Below.refl _ _⟩
      case round =>
        obtain ⟨k, hv, lo, hx, hk, rfl, rfl, rfl, rfl, hhull, hb⟩ := hrel
        by_cases hlt : k < n1
        · have cz : wr.cell? ⟨b1, o1 + k, none⟩ = some (.int .i64 (Z k)) := cell_later hb (hcz k hlt)
          have cs : wr.cell? ⟨b, o + k, none⟩ = some (.string (S k)) := cell_later hb (hcs k hlt)
          have hs1 : (S k).size ≤ 1048576 := by have := size_le_tot S hlt; omega
          have hz0 := Laid.nonneg HW.out.2.1 HW.out.2.2.2.2.2.2.1 k hlt
          have hz1 := (HW.out.2.2.2.2.2.2.1 k hlt).2
          have HH : Hid (Hull lp S Z (k + 1) true (hullLo hv lo (Z k)) (hullHi hv hx (Z k + ((S k).size : Int)))) := Hull.step HW.out.2.1 hhull (HW.out.2.2.2.2.2.2.1 k hlt).1
          obtain ⟨z, hz⟩ : ∃ z, z = Z k := ⟨_, rfl⟩
          obtain ⟨s, hs'⟩ : ∃ s, s = S k := ⟨_, rfl⟩
          rw [← hz] at cz hz0 hz1 HH
          rw [← hs'] at cs hs1 HH
          have g0 : (0 : Int) ≤ (k : Int) := Int.natCast_nonneg _
          have g1 : (k : Int) < (n1 : Int) := by omega
          have HC1 : Hid (∀ j, j < n1 → w2.cell? ⟨b, o + j, none⟩ = some (.string (S j))) := hcs
          have HC2 : Hid (∀ j, j < n1 → w2.cell? ⟨b1, o1 + j, none⟩ = some (.int .i64 (Z j))) := hcz
          clear hz hs' hhull hcs hcz
          go_wp2_with fail
          go_quiet ((go_at_call 15; exact Calls.quiet_of_same (hullAdd_any hv lo hx z (z + (s.size : Int)) _)))
          go_wp2
          go_roundw
          case rel => exact ⟨k + 1, true, _, _, by omega, by go_num, rfl, rfl, rfl, HH.out, below_drewN hb _⟩
          case measure => simp [intOf]; omega
        · obtain rfl : k = n1 := by omega
          have HH : Hid (Hull lp S Z k hv lo hx) := hhull
          clear hhull
          by_cases hrp : 0 < rp
          · have hf := Hull.shut HW.out hrp HH.out
            have hrb := HW.out.2.2.2.2.1
            have F1 : Hid (hullLo hv lo rp = posOf lp k Z) := hf.1
            have F2 : Hid (hullHi hv hx (rp + 1) = endOf rp k S Z) := hf.2
            clear hf
            go_wp2_with fail
            refine (hullAdd_any hv lo hx rp (rp + 1) _).mono ?_
            rintro e w' ⟨rfl, hww⟩
            rw [hww]
            clear hww w'
            rw [F1.out, F2.out]
            go_wp2_with fail
            refine (build_any lp rp va _ _ _ _ _ S Z _ (StrRow.later (.inr ⟨b, o, rfl, hcs⟩) hb) (IntRow.later (.inr ⟨b1, o1, rfl, hcz⟩) hb) (by omega)).mono ?_
            rintro e w5 ⟨p, rfl, L, k5⟩
            go_wp2_with fail
            refine (listPos_any p lp rp va _ S Z w5 L (by omega)).mono ?_
            rintro e w' ⟨rfl, rfl⟩
            go_wp2_with fail
            refine (listEnd_any p lp rp va _ S Z w5 L (by omega)).mono ?_
            rintro e w6 ⟨rfl, k6⟩
            go_wp2
            go_ret
            exact ⟨by simp, chain (chain (chain j2 hb) k5) k6⟩
          · obtain rfl : rp = 0 := by have := HW.out.2.2.2.1; omega
            have hf := Hull.open_ HW.out (by omega) HH.out
            match hv, HH, hf with
            | false, HH, hf =>
              have F1 : Hid (posOf lp k Z = 0) := (hf.2 rfl).1
              have F2 : Hid (endOf 0 k S Z = 0) := (hf.2 rfl).2
              clear hf
              go_wp2_with fail
              refine (build_any lp 0 va _ _ _ _ _ S Z _ (StrRow.later (.inr ⟨b, o, rfl, hcs⟩) hb) (IntRow.later (.inr ⟨b1, o1, rfl, hcz⟩) hb) (by omega)).mono ?_
              rintro e w5 ⟨p, rfl, L, k5⟩
              go_wp2_with fail
              refine (listPos_any p lp 0 va _ S Z w5 L (by omega)).mono ?_
              rintro e w' ⟨rfl, rfl⟩
              rw [F1.out]
              go_wp2_with fail
              refine (listEnd_any p lp 0 va _ S Z w5 L (by omega)).mono ?_
              rintro e w6 ⟨rfl, k6⟩
              rw [F2.out]
              go_wp2
              go_ret
              exact ⟨by simp, chain (chain (chain j2 hb) k5) k6⟩
            | true, HH, hf =>
              obtain ⟨e1, e2⟩ := hf.1 rfl
              clear hf HH
              rw [e1, e2]
              clear e1 e2
              go_wp2_with fail
              refine (build_any lp 0 va _ _ _ _ _ S Z _ (StrRow.later (.inr ⟨b, o, rfl, hcs⟩) hb) (IntRow.later (.inr ⟨b1, o1, rfl, hcz⟩) hb) (by omega)).mono ?_
              rintro e w5 ⟨p, rfl, L, k5⟩
              go_wp2_with fail
              refine (listPos_any p lp 0 va _ S Z w5 L (by omega)).mono ?_
              rintro e w' ⟨rfl, rfl⟩
              go_wp2_with fail
              refine (listEnd_any p lp 0 va _ S Z w5 L (by omega)).mono ?_
              rintro e w6 ⟨rfl, k6⟩
              go_wp2
              go_ret
              exact ⟨by simp, chain (chain (chain j2 hb) k5) k6⟩

    · have hlp' : decide (0 < lp) = false := decide_eq_false hlp
      have HLP : Hid (¬ 0 < lp) := hlp
      go_wp2_with fail
      go_loopw [11, 12, 13, 14] (fun hvv lov hiv i wr => ∃ (k : Nat) (hv : Bool) (lo hx : Int), k ≤ n1 ∧ i = .int .i64 k ∧ hvv = .bool hv ∧ lov = .int .i64 lo ∧ hiv = .int .i64 hx ∧ Hull lp S Z k hv lo hx ∧ Below w2.heap.size w2 wr) (fun _ _ _ i _ => n1 - (intOf i).toNat)
      case atStart => exact ⟨0, false, 0, 0, Nat.zero_le _, rfl, rfl, rfl, rfl, Hull.none (by have := HLP.out; omega), Below.refl _ _⟩
      case round =>
        obtain ⟨k, hv, lo, hx, hk, rfl, rfl, rfl, rfl, hhull, hb⟩ := hrel
        by_cases hlt : k < n1
        · have cz : wr.cell? ⟨b1, o1 + k, none⟩ = some (.int .i64 (Z k)) := cell_later hb (hcz k hlt)
          have cs : wr.cell? ⟨b, o + k, none⟩ = some (.string (S k)) := cell_later hb (hcs k hlt)
          have hs1 : (S k).size ≤ 1048576 := by have := size_le_tot S hlt; omega
          have hz0 := Laid.nonneg HW.out.2.1 HW.out.2.2.2.2.2.2.1 k hlt
          have hz1 := (HW.out.2.2.2.2.2.2.1 k hlt).2
          have HH : Hid (Hull lp S Z (k + 1) true (hullLo hv lo (Z k)) (hullHi hv hx (Z k + ((S k).size : Int)))) := Hull.step HW.out.2.1 hhull (HW.out.2.2.2.2.2.2.1 k hlt).1
          obtain ⟨z, hz⟩ : ∃ z, z = Z k := ⟨_, rfl⟩
          obtain ⟨s, hs'⟩ : ∃ s, s = S k := ⟨_, rfl⟩
          rw [← hz] at cz hz0 hz1 HH
          rw [← hs'] at cs hs1 HH
          have g0 : (0 : Int) ≤ (k : Int) := Int.natCast_nonneg _
          have g1 : (k : Int) < (n1 : Int) := by omega
          have HC1 : Hid (∀ j, j < n1 → w2.cell? ⟨b, o + j, none⟩ = some (.string (S j))) := hcs
          have HC2 : Hid (∀ j, j < n1 → w2.cell? ⟨b1, o1 + j, none⟩ = some (.int .i64 (Z j))) := hcz
          clear hz hs' hhull hcs hcz
          go_wp2_with fail
          go_quiet ((go_at_call 15; exact Calls.quiet_of_same (hullAdd_any hv lo hx z (z + (s.size : Int)) _)))
          go_wp2
          go_roundw
          case rel => exact ⟨k + 1, true, _, _, by omega, by go_num, rfl, rfl, rfl, HH.out, below_drewN hb _⟩
          case measure => simp [intOf]; omega
        · obtain rfl : k = n1 := by omega
          have HH : Hid (Hull lp S Z k hv lo hx) := hhull
          clear hhull
          by_cases hrp : 0 < rp
          · have hf := Hull.shut HW.out hrp HH.out
            have hrb := HW.out.2.2.2.2.1
            have F1 : Hid (hullLo hv lo rp = posOf lp k Z) := hf.1
            have F2 : Hid (hullHi hv hx (rp + 1) = endOf rp k S Z) := hf.2
            clear hf
            go_wp2_with fail
            refine (hullAdd_any hv lo hx rp (rp + 1) _).mono ?_
            rintro e w' ⟨rfl, hww⟩
            rw [hww]
            clear hww w'
            rw [F1.out, F2.out]
            go_wp2_with fail
            refine (build_any lp rp va _ _ _ _ _ S Z _ (StrRow.later (.inr ⟨b, o, rfl, hcs⟩) hb) (IntRow.later (.inr ⟨b1, o1, rfl, hcz⟩) hb) (by omega)).mono ?_
            rintro e w5 ⟨p, rfl, L, k5⟩
            go_wp2_with fail
            refine (listPos_any p lp rp va _ S Z w5 L (by omega)).mono ?_
            rintro e w' ⟨rfl, rfl⟩
            go_wp2_with fail
            refine (listEnd_any p lp rp va _ S Z w5 L (by omega)).mono ?_
            rintro e w6 ⟨rfl, k6⟩
            go_wp2
            go_ret
            exact ⟨by simp, chain (chain (chain j2 hb) k5) k6⟩
          · obtain rfl : rp = 0 := by have := HW.out.2.2.2.1; omega
            have hf := Hull.open_ HW.out (by omega) HH.out
            match hv, HH, hf with
            | false, HH, hf =>
              have F1 : Hid (posOf lp k Z = 0) := (hf.2 rfl).1
              have F2 : Hid (endOf 0 k S Z = 0) := (hf.2 rfl).2
              clear hf
              go_wp2_with fail
              refine (build_any lp 0 va _ _ _ _ _ S Z _ (StrRow.later (.inr ⟨b, o, rfl, hcs⟩) hb) (IntRow.later (.inr ⟨b1, o1, rfl, hcz⟩) hb) (by omega)).mono ?_
              rintro e w5 ⟨p, rfl, L, k5⟩
              go_wp2_with fail
              refine (listPos_any p lp 0 va _ S Z w5 L (by omega)).mono ?_
              rintro e w' ⟨rfl, rfl⟩
              rw [F1.out]
              go_wp2_with fail
              refine (listEnd_any p lp 0 va _ S Z w5 L (by omega)).mono ?_
              rintro e w6 ⟨rfl, k6⟩
              rw [F2.out]
              go_wp2
              go_ret
              exact ⟨by simp, chain (chain (chain j2 hb) k5) k6⟩
            | true, HH, hf =>
              obtain ⟨e1, e2⟩ := hf.1 rfl
              clear hf HH
              rw [e1, e2]
              clear e1 e2
              go_wp2_with fail
              refine (build_any lp 0 va _ _ _ _ _ S Z _ (StrRow.later (.inr ⟨b, o, rfl, hcs⟩) hb) (IntRow.later (.inr ⟨b1, o1, rfl, hcz⟩) hb) (by omega)).mono ?_
              rintro e w5 ⟨p, rfl, L, k5⟩
              go_wp2_with fail
              refine (listPos_any p lp 0 va _ S Z w5 L (by omega)).mono ?_
              rintro e w' ⟨rfl, rfl⟩
              go_wp2_with fail
              refine (listEnd_any p lp 0 va _ S Z w5 L (by omega)).mono ?_
              rintro e w6 ⟨rfl, k6⟩
              go_wp2
              go_ret
              exact ⟨by simp, chain (chain (chain j2 hb) k5) k6⟩



end Go.Proofs.Yoedyw
