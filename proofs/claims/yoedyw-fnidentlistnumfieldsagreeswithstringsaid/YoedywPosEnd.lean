/-
  (*IdentList).Pos (17), (*IdentList).End (18), (*IdentList).NumFields (25) BY THEIR CONTRACTS.
-/
import Derived.Test.YoedywList
import Derived.Deep.QuietTactic
import Derived.BigQuiet
namespace Go.Proofs.Yoedyw
open Go.RowKit

/-- What Pos answers. -/
def posOf (lp : Int) (n : Nat) (Z : Nat → Int) : Int := if lp = 0 then (if n = 0 then 0 else Z 0) else lp
/-- What End answers. -/
def endOf (rp : Int) (n : Nat) (S : Nat → ByteArray) (Z : Nat → Int) : Int := if rp = 0 then (if n = 0 then 0 else wrap64 (Z (n - 1) + ((S (n - 1)).size : Int))) else wrap64 (rp + 1)

/-- A call that answers the integer x and leaves the world as it was. -/
def Gives (w : World) (x : Int) (e : Ending) (w' : World) : Prop := e = .returned (.int .i64 x) ∧ w = w'

theorem listPos_any (p : Nat) (lp rp : Int) (va : Bool) (n : Nat) (S : Nat → ByteArray) (Z : Nat → Int) (w : World) (h : ListAt w p lp rp va n S Z) (hn : n ≤ 1048576) :
    Calls Edyg.prog 17 #[.pointer (some ⟨p, 0, none⟩)] w (Gives w (posOf lp n Z)) := by
  obtain ⟨ad, cap, h0, h1, h2, h3, hr⟩ := h
  by_cases hl : lp = 0
  · subst hl
    rcases hr with rfl | ⟨g, off, rfl, hc⟩
    · go_enter Edyg.func17, Edyg.ntmps17
      go_wp2
      go_ret
      exact ⟨by simp [posOf], rfl⟩
    · by_cases hn0 : n = 0
      · subst hn0
        go_enter Edyg.func17, Edyg.ntmps17
        go_wp2
        go_ret
        exact ⟨by simp [posOf], rfl⟩
      · obtain ⟨b, c1, c2, c3⟩ := hc 0 (by omega)
        have hp : (0 : Int) < (n : Int) := by omega
        have e : posOf 0 n Z = Z 0 := by simp [posOf, hn0]
        rw [e]
        simp only [Nat.add_zero] at c1
        clear hc e
        go_enter Edyg.func17, Edyg.ntmps17
        go_wp2
        go_ret
        exact ⟨rfl, rfl⟩
  · have e : posOf lp n Z = lp := by simp [posOf, hl]
    rw [e]
    clear e hr
    have hl2 : (lp != 0) = true := by simpa using hl
    go_enter Edyg.func17, Edyg.ntmps17
    go_wp2
    go_ret
    exact ⟨rfl, rfl⟩

/-- .. or lays at most new blocks and draws. -/
def GivesB (w : World) (x : Int) (e : Ending) (w' : World) : Prop := e = .returned (.int .i64 x) ∧ Below w.heap.size w w'

theorem identEnd_any (b : Nat) (s : ByteArray) (z : Int) (w : World) (c2 : w.cell? ⟨b, 0, none⟩ = some (.string s)) (c3 : w.cell? ⟨b, 1, none⟩ = some (.int .i64 z)) :
    Calls Edyg.prog 30 #[.pointer (some ⟨b, 0, none⟩)] w (fun e w' => e = .returned (.int .i64 (wrap64 (z + (s.size : Int)))) ∧ ∃ k, w' = w.drewN k) := by
  go_enter Edyg.func30, Edyg.ntmps30
  go_wp2
  go_quiet (fail)
  go_wp2
  go_ret
  exact ⟨rfl, _, rfl⟩

theorem listEnd_any (p : Nat) (lp rp : Int) (va : Bool) (n : Nat) (S : Nat → ByteArray) (Z : Nat → Int) (w : World) (h : ListAt w p lp rp va n S Z) (hn : n ≤ 1048576) :
    Calls Edyg.prog 18 #[.pointer (some ⟨p, 0, none⟩)] w (GivesB w (endOf rp n S Z)) := by
  obtain ⟨ad, cap, h0, h1, h2, h3, hr⟩ := h
  by_cases hl : rp = 0
  · subst hl
    rcases hr with rfl | ⟨g, off, rfl, hc⟩
    · go_enter Edyg.func18, Edyg.ntmps18
      go_wp2
      go_ret
      exact ⟨by simp [endOf], Below.refl _ _⟩
    · by_cases hn0 : n = 0
      · subst hn0
        go_enter Edyg.func18, Edyg.ntmps18
        go_wp2
        go_ret
        exact ⟨by simp [endOf], Below.refl _ _⟩
      · obtain ⟨m, rfl⟩ : ∃ m, n = m + 1 := ⟨n - 1, by omega⟩
        obtain ⟨b, c1, c2, c3⟩ := hc m (by omega)
        have e : endOf 0 (m + 1) S Z = wrap64 (Z m + ((S m).size : Int)) := by simp [endOf]
        rw [e]
        obtain ⟨s, hs⟩ : ∃ s, s = S m := ⟨_, rfl⟩
        rw [← hs] at c2 ⊢
        clear hc e hs
        go_enter Edyg.func18, Edyg.ntmps18
        go_wp2_with (first | (go_at_call 30; refine (identEnd_any b s (Z m) _ c2 c3).mono ?_; rintro e w' ⟨rfl, nq, rfl⟩) | go_in)
        go_ret
        exact ⟨rfl, below_drewN (Below.refl _ _) _⟩
  · have e : endOf rp n S Z = wrap64 (rp + 1) := by simp [endOf, hl]
    rw [e]
    clear e hr
    have hl2 : (rp != 0) = true := by simpa using hl
    go_enter Edyg.func18, Edyg.ntmps18
    go_wp2
    go_ret
    exact ⟨rfl, Below.refl _ _⟩

theorem listNum_any (p : Nat) (lp rp : Int) (va : Bool) (n : Nat) (S : Nat → ByteArray) (Z : Nat → Int) (w : World) (h : ListAt w p lp rp va n S Z) :
    Calls Edyg.prog 25 #[.pointer (some ⟨p, 0, none⟩)] w (Gives w (n : Int)) := by
  obtain ⟨ad, cap, h0, h1, h2, h3, hr⟩ := h
  clear hr
  go_enter Edyg.func25, Edyg.ntmps25
  go_wp2
  go_ret
  exact ⟨rfl, rfl⟩

end Go.Proofs.Yoedyw
