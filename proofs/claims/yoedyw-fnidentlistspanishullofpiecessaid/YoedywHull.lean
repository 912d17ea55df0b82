/-
  THE HULL, NO Go IN SIGHT: what the law's loop holds behind k identifiers, and that its end is Pos and End.
-/
import Derived.Test.YoedywLaid
import Derived.Test.YoedywPosEnd
namespace Go.Proofs.Yoedyw
open Go.RowKit

/-- The loop's three variables behind k identifiers. -/
def Hull (lp : Int) (S : Nat → ByteArray) (Z : Nat → Int) (k : Nat) (hv : Bool) (lo hi : Int) : Prop :=
  (hv = false ∧ ¬ 0 < lp ∧ k = 0 ∧ lo = 0 ∧ hi = 0) ∨ (hv = true ∧ (0 < lp ∨ 0 < k) ∧ lo = posOf lp k Z ∧ hi = nxt lp S Z k ∧ lo ≤ hi)

theorem Hull.paren {lp : Int} {S : Nat → ByteArray} {Z : Nat → Int} (h : 0 < lp) : Hull lp S Z 0 true (hullLo false 0 lp) (hullHi false 0 (lp + 1)) := by
  refine .inr ⟨rfl, .inl h, ?_, ?_, ?_⟩
  · have : ¬ lp = 0 := by omega
    simp [hullLo, posOf, this]
  · simp [hullHi, nxt, h]
  · simp [hullLo, hullHi]; omega
theorem Hull.none {lp : Int} {S : Nat → ByteArray} {Z : Nat → Int} (h : ¬ 0 < lp) : Hull lp S Z 0 false 0 0 := .inl ⟨rfl, h, rfl, rfl, rfl⟩

theorem Hull.step {lp : Int} {S : Nat → ByteArray} {Z : Nat → Int} {k : Nat} {hv : Bool} {lo hi : Int} (h0 : 0 ≤ lp) (h : Hull lp S Z k hv lo hi) (hz : nxt lp S Z k ≤ Z k) :
    Hull lp S Z (k + 1) true (hullLo hv lo (Z k)) (hullHi hv hi (Z k + ((S k).size : Int))) := by
  have en : nxt lp S Z (k + 1) = Z k + ((S k).size : Int) := rfl
  have hs : (0 : Int) ≤ ((S k).size : Int) := Int.natCast_nonneg _
  rcases h with ⟨rfl, hl, rfl, rfl, rfl⟩ | ⟨rfl, hor, rfl, rfl, hle⟩
  · refine .inr ⟨rfl, .inr (by omega), ?_, ?_, ?_⟩
    · have : lp = 0 := by omega
      simp [hullLo, posOf, this]
    · rw [en]; simp [hullHi]
    · simp [hullLo, hullHi]; omega
  · have e1 : hullLo true (posOf lp k Z) (Z k) = posOf lp k Z := by
      simp only [hullLo, if_true]
      rw [if_neg (by omega)]
    have e2 : hullHi true (nxt lp S Z k) (Z k + ((S k).size : Int)) = Z k + ((S k).size : Int) := by
      simp only [hullHi, if_true]
      by_cases h1 : nxt lp S Z k < Z k + ((S k).size : Int)
      · rw [if_pos h1]
      · rw [if_neg h1]; omega
    rw [e1, e2]
    refine .inr ⟨rfl, .inr (by omega), ?_, en.symm, by omega⟩
    unfold posOf
    by_cases hl : lp = 0
    · have hk : ¬ k = 0 := by omega
      simp [hl, hk]
    · simp [hl]

/-- Without a right parenthesis. -/
theorem Hull.open_ {lp : Int} {n : Nat} {S : Nat → ByteArray} {Z : Nat → Int} {hv : Bool} {lo hi : Int} (hw : WellLaid lp 0 n n S Z) (hS : tot S n ≤ 1048576) (h : Hull lp S Z n hv lo hi) :
    (hv = true → lo = posOf lp n Z ∧ hi = endOf 0 n S Z) ∧ (hv = false → posOf lp n Z = 0 ∧ endOf 0 n S Z = 0) := by
  obtain ⟨_, l1, l2, r1, r2, h0, hl, hr⟩ := hw
  rcases h with ⟨rfl, hl0, rfl, rfl, rfl⟩ | ⟨rfl, hor, rfl, rfl, hle⟩
  · refine ⟨fun h => (by cases h), fun _ => ⟨?_, by simp [endOf]⟩⟩
    have : lp = 0 := by omega
    simp [posOf, this]
  · refine ⟨fun _ => ⟨rfl, ?_⟩, fun h => by cases h⟩
    have hn : 0 < n := by
      by_cases hn : n = 0
      · have := h0 hn; omega
      · omega
    obtain ⟨m, rfl⟩ : ∃ m, n = m + 1 := ⟨n - 1, by omega⟩
    have hm := hl m (by omega)
    have hsz := size_le_tot S (show m < m + 1 by omega)
    have hnx : 0 ≤ nxt lp S Z m := by
      cases m with
      | zero => simp only [nxt]; split <;> omega
      | succ m =>
        have hm' := hl m (by omega)
        have : 0 ≤ Z m := by
          clear hm hsz hle
          have key : ∀ j, j < m + 1 + 1 → 0 ≤ Z j := by
            intro j
            induction j with
            | zero => intro hj; have := (hl 0 (by omega)).1; simp only [nxt] at this; split at this <;> omega
            | succ j ih => intro hj; have h1 := (hl (j + 1) (by omega)).1; have h2 := ih (by omega); simp only [nxt] at h1; omega
          exact key m (by omega)
        simp only [nxt]; omega
    have e : endOf 0 (m + 1) S Z = wrap64 (Z m + ((S m).size : Int)) := by simp [endOf]
    rw [e, IntWalk.wrap64_in _ ⟨by omega, by omega⟩]
    rfl

/-- With one. -/
theorem Hull.shut {lp rp : Int} {n : Nat} {S : Nat → ByteArray} {Z : Nat → Int} {hv : Bool} {lo hi : Int} (hw : WellLaid lp rp n n S Z) (hrp : 0 < rp) (h : Hull lp S Z n hv lo hi) :
    hullLo hv lo rp = posOf lp n Z ∧ hullHi hv hi (rp + 1) = endOf rp n S Z := by
  obtain ⟨_, l1, l2, r1, r2, h0, hl, hr⟩ := hw
  have hne : ¬ rp = 0 := by omega
  have e : endOf rp n S Z = rp + 1 := by
    simp only [endOf, if_neg hne]
    exact IntWalk.wrap64_in _ ⟨by omega, by omega⟩
  have hx := hr hrp
  rcases h with ⟨rfl, hl0, rfl, rfl, rfl⟩ | ⟨rfl, hor, rfl, rfl, hle⟩
  · have := h0 rfl; omega
  · rw [e]
    refine ⟨?_, ?_⟩
    · simp only [hullLo, if_true]
      rw [if_neg (by omega)]
    · simp only [hullHi, if_true]
      rw [if_pos (by omega)]

end Go.Proofs.Yoedyw
