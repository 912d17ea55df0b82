/-
  wellLaidOut (12), hullAdd (15) BY THEIR CONTRACTS.
-/
import Derived.Test.YoedywBase
namespace Go.Proofs.Yoedyw
open Go.RowKit

/-- Where the k-th piece may begin. -/
def nxt (lp : Int) (S : Nat → ByteArray) (Z : Nat → Int) : Nat → Int
  | 0 => if 0 < lp then lp + 1 else 1
  | k + 1 => Z k + ((S k).size : Int)
/-- The first k identifiers lie in order. -/
def Laid (lp : Int) (S : Nat → ByteArray) (Z : Nat → Int) (k : Nat) : Prop := ∀ j, j < k → nxt lp S Z j ≤ Z j ∧ Z j ≤ 1073741824
theorem Laid.zero {lp : Int} {S : Nat → ByteArray} {Z : Nat → Int} : Laid lp S Z 0 := fun j hj => by omega
theorem Laid.succ {lp : Int} {S : Nat → ByteArray} {Z : Nat → Int} {k : Nat} (h : Laid lp S Z k) (h1 : nxt lp S Z k ≤ Z k) (h2 : Z k ≤ 1073741824) : Laid lp S Z (k + 1) := fun j hj => by
  by_cases e : j = k
  · subst e; exact ⟨h1, h2⟩
  · exact h j (by omega)
/-- What wellLaidOut's true says. -/
def WellLaid (lp rp : Int) (n n1 : Nat) (S : Nat → ByteArray) (Z : Nat → Int) : Prop :=
  n1 = n ∧ 0 ≤ lp ∧ lp ≤ 1073741824 ∧ 0 ≤ rp ∧ rp ≤ 1073741824 ∧ (n = 0 → (0 < lp ↔ 0 < rp)) ∧ Laid lp S Z n ∧ (0 < rp → nxt lp S Z n ≤ rp)

set_option maxHeartbeats 1000000 in
theorem laid_full (lp rp : Int) (b o n c : Nat) (S : Nat → ByteArray) (b1 o1 c1 : Nat) (Z : Nat → Int) (w : World)
    (hcs : ∀ j, j < n → w.cell? ⟨b, o + j, none⟩ = some (.string (S j))) (hcz : ∀ j, j < n → w.cell? ⟨b1, o1 + j, none⟩ = some (.int .i64 (Z j))) (hS : tot S n ≤ 1048576) (hn : n ≤ 1048576) (hn0 : 0 < n)
    (l1 : 0 ≤ lp) (l2 : lp ≤ 1073741824) (r1 : 0 ≤ rp) (r2 : rp ≤ 1073741824) :
    Calls Edyg.prog 12 #[.int .i64 lp, .int .i64 rp, .slice (some ⟨b, o, none⟩) n c, .slice (some ⟨b1, o1, none⟩) n c1] w (Asks w (WellLaid lp rp n n S Z)) := by
  have HT : Hid (tot S n ≤ 1048576) := hS
  clear hS
  have d0 : ((n : Int) == 0) = false := by simp; omega
  by_cases hlp : 0 < lp
  · have HX : Hid (nxt lp S Z 0 = lp + 1) := by show _ = _; simp only [nxt]; rw [if_pos hlp]
    go_enter Edyg.func12, Edyg.ntmps12
    go_wp2
    go_loop [9, 10, 11] (fun x i _ => ∃ k : Nat, k ≤ n ∧ i = .int .i64 k ∧ x = .int .i64 (nxt lp S Z k) ∧ Laid lp S Z k ∧ 0 ≤ nxt lp S Z k ∧ nxt lp S Z k ≤ 1074790400) (fun _ i _ => n - (intOf i).toNat)
    case atStart => exact ⟨0, Nat.zero_le _, rfl, by rw [HX.out], Laid.zero, by rw [HX.out]; omega, by rw [HX.out]; omega⟩
    case round =>
      obtain ⟨k, hk, rfl, rfl, hl, x1, x2⟩ := hrel
      obtain ⟨x, hx⟩ : ∃ x, x = nxt lp S Z k := ⟨_, rfl⟩
      rw [← hx] at x1 x2 ⊢
      have HN : Hid (x = nxt lp S Z k) := hx
      have HL : Hid (Laid lp S Z k) := hl
      clear hx hl
      by_cases hlt : k < n
      · have cz := hcz k hlt
        have cs := hcs k hlt
        have hs1 : (S k).size ≤ 1048576 := by have := size_le_tot S hlt; have := HT.out; omega
        obtain ⟨z, hz⟩ : ∃ z, z = Z k := ⟨_, rfl⟩
        obtain ⟨s, hs⟩ : ∃ s, s = S k := ⟨_, rfl⟩
        rw [← hz] at cz
        rw [← hs] at cs hs1
        have HZ : Hid (z = Z k) := hz
        have HS : Hid (s = S k) := hs
        clear hz hs hcz hcs
        by_cases h1 : z < x
        · go_wp2
          go_ret
          exact Asks.no
        by_cases h2 : 1073741824 < z
        · go_wp2
          go_ret
          exact Asks.no
        go_wp2
        go_round
        case rel =>
          have e1 := HZ.out
          have e2 := HS.out
          have e3 := HN.out
          have e4 : nxt lp S Z (k + 1) = z + (s.size : Int) := by rw [e1, e2]; rfl
          exact ⟨k + 1, by omega, by go_num, by rw [e4], HL.out.succ (by omega) (by omega), by rw [e4]; omega, by rw [e4]; omega⟩
        case measure => simp [intOf]; omega
      · have hkn : k = n := by omega
        subst hkn
        by_cases h3 : 0 < rp
        · by_cases h4 : rp < x
          · go_wp2
            go_ret
            exact Asks.no
          · go_wp2
            go_ret
            exact Asks.yes ⟨rfl, by omega, by omega, by omega, by omega, by omega, HL.out, fun _ => by rw [← HN.out]; omega⟩
        · have h3' : decide (0 < rp) = false := decide_eq_false h3
          go_wp2
          go_ret
          exact Asks.yes ⟨rfl, by omega, by omega, by omega, by omega, by omega, HL.out, fun h => by omega⟩
  · have hlp' : decide (0 < lp) = false := decide_eq_false hlp
    have HX : Hid (nxt lp S Z 0 = 1) := by show _ = _; simp only [nxt]; rw [if_neg hlp]
    go_enter Edyg.func12, Edyg.ntmps12
    go_wp2
    go_loop [9, 10, 11] (fun x i _ => ∃ k : Nat, k ≤ n ∧ i = .int .i64 k ∧ x = .int .i64 (nxt lp S Z k) ∧ Laid lp S Z k ∧ 0 ≤ nxt lp S Z k ∧ nxt lp S Z k ≤ 1074790400) (fun _ i _ => n - (intOf i).toNat)
    case atStart => exact ⟨0, Nat.zero_le _, rfl, by rw [HX.out], Laid.zero, by rw [HX.out]; omega, by rw [HX.out]; omega⟩
    case round =>
      obtain ⟨k, hk, rfl, rfl, hl, x1, x2⟩ := hrel
      obtain ⟨x, hx⟩ : ∃ x, x = nxt lp S Z k := ⟨_, rfl⟩
      rw [← hx] at x1 x2 ⊢
      have HN : Hid (x = nxt lp S Z k) := hx
      have HL : Hid (Laid lp S Z k) := hl
      clear hx hl
      by_cases hlt : k < n
      · have cz := hcz k hlt
        have cs := hcs k hlt
        have hs1 : (S k).size ≤ 1048576 := by have := size_le_tot S hlt; have := HT.out; omega
        obtain ⟨z, hz⟩ : ∃ z, z = Z k := ⟨_, rfl⟩
        obtain ⟨s, hs⟩ : ∃ s, s = S k := ⟨_, rfl⟩
        rw [← hz] at cz
        rw [← hs] at cs hs1
        have HZ : Hid (z = Z k) := hz
        have HS : Hid (s = S k) := hs
        clear hz hs hcz hcs
        by_cases h1 : z < x
        · go_wp2
          go_ret
          exact Asks.no
        by_cases h2 : 1073741824 < z
        · go_wp2
          go_ret
          exact Asks.no
        go_wp2
        go_round
        case rel =>
          have e1 := HZ.out
          have e2 := HS.out
          have e3 := HN.out
          have e4 : nxt lp S Z (k + 1) = z + (s.size : Int) := by rw [e1, e2]; rfl
          exact ⟨k + 1, by omega, by go_num, by rw [e4], HL.out.succ (by omega) (by omega), by rw [e4]; omega, by rw [e4]; omega⟩
        case measure => simp [intOf]; omega
      · have hkn : k = n := by omega
        subst hkn
        by_cases h3 : 0 < rp
        · by_cases h4 : rp < x
          · go_wp2
            go_ret
            exact Asks.no
          · go_wp2
            go_ret
            exact Asks.yes ⟨rfl, by omega, by omega, by omega, by omega, by omega, HL.out, fun _ => by rw [← HN.out]; omega⟩
        · have h3' : decide (0 < rp) = false := decide_eq_false h3
          go_wp2
          go_ret
          exact Asks.yes ⟨rfl, by omega, by omega, by omega, by omega, by omega, HL.out, fun h => by omega⟩

set_option maxHeartbeats 1000000 in
theorem laid_empty (lp rp : Int) (a : Option Addr) (c : Nat) (S : Nat → ByteArray) (a1 : Option Addr) (c1 : Nat) (Z : Nat → Int) (w : World)
    (l1 : 0 ≤ lp) (l2 : lp ≤ 1073741824) (r1 : 0 ≤ rp) (r2 : rp ≤ 1073741824) :
    Calls Edyg.prog 12 #[.int .i64 lp, .int .i64 rp, .slice a 0 c, .slice a1 0 c1] w (Asks w (WellLaid lp rp 0 0 S Z)) := by
  by_cases hlp : 0 < lp
  · by_cases hrp : 0 < rp
    · have HX : Hid (nxt lp S Z 0 = lp + 1) := by show _ = _; simp only [nxt]; rw [if_pos hlp]
      by_cases h4 : rp < lp + 1
      · go_enter Edyg.func12, Edyg.ntmps12
        go_wp2
        refine wp_loop_rounds 1 ?_
        rw [rounds_succ]
        go_wp2
        go_ret
        exact Asks.no
      · go_enter Edyg.func12, Edyg.ntmps12
        go_wp2
        refine wp_loop_rounds 1 ?_
        rw [rounds_succ]
        go_wp2
        go_ret
        exact Asks.yes ⟨rfl, l1, l2, r1, r2, fun _ => by omega, Laid.zero, fun _ => by rw [HX.out]; omega⟩
    · have hrp' : decide (0 < rp) = false := decide_eq_false hrp
      go_enter Edyg.func12, Edyg.ntmps12
      go_wp2
      go_ret
      exact Asks.no
  · have hlp' : decide (0 < lp) = false := decide_eq_false hlp
    by_cases hrp : 0 < rp
    · go_enter Edyg.func12, Edyg.ntmps12
      go_wp2
      go_ret
      exact Asks.no
    · have hrp' : decide (0 < rp) = false := decide_eq_false hrp
      go_enter Edyg.func12, Edyg.ntmps12
      go_wp2
      refine wp_loop_rounds 1 ?_
      rw [rounds_succ]
      go_wp2
      go_ret
      exact Asks.yes ⟨rfl, l1, l2, r1, r2, fun _ => by omega, Laid.zero, fun h => by omega⟩

set_option maxHeartbeats 1000000 in
theorem laid_any (lp rp : Int) (a : Option Addr) (n c : Nat) (S : Nat → ByteArray) (a1 : Option Addr) (n1 c1 : Nat) (Z : Nat → Int) (w : World)
    (hr : StrRow w a n S) (hi : IntRow w a1 n1 Z) (hS : tot S n ≤ 1048576) (hn : n ≤ 1048576) :
    Calls Edyg.prog 12 #[.int .i64 lp, .int .i64 rp, .slice a n c, .slice a1 n1 c1] w (Asks w (WellLaid lp rp n n1 S Z)) := by
  by_cases e1 : n1 = n
  case neg =>
    have hd : ((n1 : Int) != (n : Int)) = true := by simp; omega
    go_enter Edyg.func12, Edyg.ntmps12
    go_wp2
    go_ret
    exact Asks.no
  subst e1
  by_cases l1 : lp < 0
  · go_enter Edyg.func12, Edyg.ntmps12
    go_wp2
    go_ret
    exact Asks.no
  have l1' : decide (lp < 0) = false := decide_eq_false l1
  by_cases l2 : 1073741824 < lp
  · go_enter Edyg.func12, Edyg.ntmps12
    go_wp2
    go_ret
    exact Asks.no
  have l2' : decide (1073741824 < lp) = false := decide_eq_false l2
  by_cases r1 : rp < 0
  · go_enter Edyg.func12, Edyg.ntmps12
    go_wp2
    go_ret
    exact Asks.no
  have r1' : decide (rp < 0) = false := decide_eq_false r1
  by_cases r2 : 1073741824 < rp
  · go_enter Edyg.func12, Edyg.ntmps12
    go_wp2
    go_ret
    exact Asks.no
  clear l1' l2' r1'
  rcases hr with rfl | ⟨b, o, rfl, hcs⟩
  · exact laid_empty lp rp a c S a1 c1 Z w (by omega) (by omega) (by omega) (by omega)
  · rcases hi with rfl | ⟨b1, o1, rfl, hcz⟩
    · exact laid_empty lp rp _ c S a1 c1 Z w (by omega) (by omega) (by omega) (by omega)
    · by_cases h0 : n1 = 0
      · subst h0
        exact laid_empty lp rp _ c S _ c1 Z w (by omega) (by omega) (by omega) (by omega)
      · exact laid_full lp rp b o n1 c S b1 o1 c1 Z w hcs hcz hS hn (by omega) (by omega) (by omega) (by omega) (by omega)

/-- What hullAdd computes. -/
def hullLo (have_ : Bool) (lo s : Int) : Int := if have_ then (if s < lo then s else lo) else s
def hullHi (have_ : Bool) (hi e : Int) : Int := if have_ then (if hi < e then e else hi) else e
theorem hullAdd_any (hv : Bool) (lo hi s t : Int) (w : World) :
    Calls Edyg.prog 15 #[.bool hv, .int .i64 lo, .int .i64 hi, .int .i64 s, .int .i64 t] w fun e w' => e = .returned (.tuple #[.bool true, .int .i64 (hullLo hv lo s), .int .i64 (hullHi hv hi t)]) ∧ w' = w := by
  cases hv with
  | false =>
    go_enter Edyg.func15, Edyg.ntmps15
    go_wp2
    go_ret3
    exact ⟨rfl, rfl⟩
  | true =>
    by_cases h1 : s < lo
    · by_cases h2 : hi < t
      · simp only [hullLo, hullHi, if_true, if_pos h1, if_pos h2]
        go_enter Edyg.func15, Edyg.ntmps15
        go_wp2
        go_ret3
        exact ⟨rfl, rfl⟩
      · simp only [hullLo, hullHi, if_true, if_pos h1, if_neg h2]
        go_enter Edyg.func15, Edyg.ntmps15
        go_wp2
        go_ret3
        exact ⟨rfl, rfl⟩
    · by_cases h2 : hi < t
      · simp only [hullLo, hullHi, if_true, if_neg h1, if_pos h2]
        go_enter Edyg.func15, Edyg.ntmps15
        go_wp2
        go_ret3
        exact ⟨rfl, rfl⟩
      · simp only [hullLo, hullHi, if_true, if_neg h1, if_neg h2]
        go_enter Edyg.func15, Edyg.ntmps15
        go_wp2
        go_ret3
        exact ⟨rfl, rfl⟩

end Go.Proofs.Yoedyw
