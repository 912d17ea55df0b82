/-
  THE PLAIN NOTIONS OF THIS SEAT: what the walks are told of a slice of strings or of integers; the sum of the lengths. No walk here.
-/
import Derived.Test.YoedywProg
import Derived.WalkKit
import Derived.WalkSpells
import Derived.WalkLawsBesides
import Derived.Outline
namespace Go.Proofs.Yoedyw
open Go.RowKit

/-- n strings, S 0 .. S (n - 1), lie behind the address a; of an empty slice nothing is said. -/
def StrRow (w : World) (a : Option Addr) (n : Nat) (S : Nat → ByteArray) : Prop :=
  n = 0 ∨ ∃ b off, a = some ⟨b, off, none⟩ ∧ ∀ j, j < n → w.cell? ⟨b, off + j, none⟩ = some (.string (S j))
/-- n integers likewise. -/
def IntRow (w : World) (a : Option Addr) (n : Nat) (Z : Nat → Int) : Prop :=
  n = 0 ∨ ∃ b off, a = some ⟨b, off, none⟩ ∧ ∀ j, j < n → w.cell? ⟨b, off + j, none⟩ = some (.int .i64 (Z j))

/-- The sum of the first k lengths. -/
def tot (S : Nat → ByteArray) : Nat → Nat
  | 0 => 0
  | k + 1 => tot S k + (S k).size

theorem tot_succ (S : Nat → ByteArray) (k : Nat) : tot S (k + 1) = tot S k + (S k).size := rfl
theorem tot_mono (S : Nat → ByteArray) {i j : Nat} (h : i ≤ j) : tot S i ≤ tot S j := by
  induction j with
  | zero => have : i = 0 := by omega
            subst this; exact Nat.le_refl _
  | succ j ih =>
    rw [tot_succ]
    by_cases hij : i ≤ j
    · have := ih hij; omega
    · have : i = j + 1 := by omega
      subst this; rw [tot_succ]; exact Nat.le_refl _
theorem size_le_tot (S : Nat → ByteArray) {k n : Nat} (h : k < n) : tot S k + (S k).size ≤ tot S n := by
  have := tot_mono S (show k + 1 ≤ n from h)
  rw [tot_succ] at this
  exact this

/-- What lay behind a slice lies there still where everything below the heap's end is as it was. -/
theorem StrRow.later {w w' : World} {a : Option Addr} {n : Nat} {S : Nat → ByteArray} (h : StrRow w a n S) (hb : Below w.heap.size w w') : StrRow w' a n S := by
  rcases h with h | ⟨b, off, ha, hc⟩
  · exact .inl h
  · refine .inr ⟨b, off, ha, fun j hj => ?_⟩
    exact cell_later hb (hc j hj)
theorem IntRow.later {w w' : World} {a : Option Addr} {n : Nat} {Z : Nat → Int} (h : IntRow w a n Z) (hb : Below w.heap.size w w') : IntRow w' a n Z := by
  rcases h with h | ⟨b, off, ha, hc⟩
  · exact .inl h
  · refine .inr ⟨b, off, ha, fun j hj => ?_⟩
    exact cell_later hb (hc j hj)

theorem chain {w w1 w2 : World} (h1 : Below w.heap.size w w1) (h2 : Below w1.heap.size w1 w2) : Below w.heap.size w w2 := h1.trans (h2.mono h1.size)

/-- What every law of this seat owes: it answers true and turns nothing that was there. -/
def Holds (w : World) (e : Ending) (w' : World) : Prop := e = .returned (.bool true) ∧ Below w.heap.size w w'

/-- A call that answers a bool t, under which F stands, and leaves the world as it was. -/
def Asks (w : World) (F : Prop) (e : Ending) (w' : World) : Prop := ∃ t : Bool, e = .returned (.bool t) ∧ w = w' ∧ (t = true → F)
theorem Asks.no {w : World} {F : Prop} : Asks w F (.returned (.bool false)) w := ⟨false, rfl, rfl, fun h => by cases h⟩
theorem Asks.yes {w : World} {F : Prop} (h : F) : Asks w F (.returned (.bool true)) w := ⟨true, rfl, rfl, fun _ => h⟩

end Go.Proofs.Yoedyw
