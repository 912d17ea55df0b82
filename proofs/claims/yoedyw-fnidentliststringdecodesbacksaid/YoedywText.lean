/-
  THE TEXT OF AN IdentList, NO Go IN SIGHT: its pieces, their lengths, the whole.
-/
import Derived.Test.YoedywBase
import Derived.Lib.Join
import Derived.Laws.Concat
namespace Go.Proofs.Yoedyw
open Go.RowKit

/-- The j-th of n pieces: the name; with three dots ahead where it is the last and the list is variadic. -/
def piece (va : Bool) (n : Nat) (S : Nat → ByteArray) (j : Nat) : ByteArray := if va = true ∧ j + 1 = n then ⟨#[46, 46, 46]⟩ ++ S j else S j
/-- The first k pieces. -/
def pieces (va : Bool) (n : Nat) (S : Nat → ByteArray) (k : Nat) : List ByteArray := (List.range k).map (piece va n S)
/-- The same, as lists of bytes. -/
def lists (va : Bool) (n : Nat) (S : Nat → ByteArray) (k : Nat) : List (List UInt8) := (List.range k).map fun j => (piece va n S j).data.toList

theorem piece_last (S : Nat → ByteArray) (m : Nat) : piece true (m + 1) S m = ⟨#[46, 46, 46]⟩ ++ S m := by simp [piece]
theorem piece_inner (va : Bool) {n : Nat} (S : Nat → ByteArray) {j : Nat} (h : ¬ j + 1 = n) : piece va n S j = S j := by simp [piece, h]
theorem piece_plain (n : Nat) (S : Nat → ByteArray) (j : Nat) : piece false n S j = S j := by simp [piece]

theorem pieces_length (va : Bool) (n : Nat) (S : Nat → ByteArray) (k : Nat) : (pieces va n S k).length = k := by simp [pieces]
theorem pieces_succ (va : Bool) (n : Nat) (S : Nat → ByteArray) (k : Nat) : pieces va n S (k + 1) = pieces va n S k ++ [piece va n S k] := by simp [pieces, List.range_succ]
theorem pieces_get (va : Bool) (n : Nat) (S : Nat → ByteArray) (k j : Nat) (h : j < k) : (pieces va n S k)[j]? = some (piece va n S j) := by simp [pieces, h]
theorem lists_eq (va : Bool) (n : Nat) (S : Nat → ByteArray) (k : Nat) : (pieces va n S k).map (·.data.toList) = lists va n S k := by simp [pieces, lists]
theorem lists_length (va : Bool) (n : Nat) (S : Nat → ByteArray) (k : Nat) : (lists va n S k).length = k := by simp [lists]
theorem lists_succ (va : Bool) (n : Nat) (S : Nat → ByteArray) (k : Nat) : lists va n S (k + 1) = lists va n S k ++ [(piece va n S k).data.toList] := by simp [lists, List.range_succ]

theorem size_dots (s : ByteArray) : ((⟨#[46, 46, 46]⟩ : ByteArray) ++ s).size = 3 + s.size := by
  rw [ByteArray.size_append]; rfl
theorem length_bytes (s : ByteArray) : s.data.toList.length = s.size := by rw [Array.length_toList]; rfl

/-- The lengths of the pieces: the names', and three more. -/
theorem lens_lists (va : Bool) (n : Nat) (S : Nat → ByteArray) (k : Nat) (hk : k ≤ n) : Lib.lens (lists va n S k) = tot S k + (if va = true ∧ 0 < k ∧ k = n then 3 else 0) := by
  induction k with
  | zero => simp [lists, Lib.lens, tot]
  | succ k ih =>
    have h1 := ih (by omega)
    have e : Lib.lens (lists va n S (k + 1)) = Lib.lens (lists va n S k) + (piece va n S k).size := by
      rw [lists_succ]
      simp [Lib.lens]
    have hkn : ¬ k = n := by omega
    rw [e, h1, tot_succ]
    simp only [hkn, and_false, if_false, Nat.add_zero]
    by_cases hl : va = true ∧ k + 1 = n
    · have e2 : piece va n S k = ⟨#[46, 46, 46]⟩ ++ S k := by unfold piece; rw [if_pos hl]
      rw [e2, size_dots, if_pos ⟨hl.1, by omega, hl.2⟩]
      omega
    · have e2 : piece va n S k = S k := by unfold piece; rw [if_neg hl]
      rw [e2, if_neg (fun h => hl ⟨h.1, h.2.2⟩)]
      omega

/-- What stands between the parentheses. -/
def inner (va : Bool) (n : Nat) (S : Nat → ByteArray) : List UInt8 := Lib.join (lists va n S n) [44, 32]
/-- What String answers. -/
def textOf (va : Bool) (n : Nat) (S : Nat → ByteArray) : ByteArray := ⟨([40] ++ inner va n S ++ [41]).toArray⟩

theorem inner_zero (va : Bool) (S : Nat → ByteArray) : inner va 0 S = [] := by simp [inner, lists, Lib.join_nil]
theorem inner_length (va : Bool) (n : Nat) (S : Nat → ByteArray) (hn : 0 < n) : (inner va n S).length = 2 * (n - 1) + tot S n + (if va = true then 3 else 0) := by
  have hl := lists_length va n S n
  have hs := lens_lists va n S n (Nat.le_refl _)
  unfold inner
  match hL : lists va n S n with
  | [] => rw [hL] at hl; simp at hl; omega
  | x :: r =>
    rw [hL] at hl hs
    rw [Lib.join_length, hs]
    simp only [List.length_cons, List.length_nil, hn, and_true] at hl ⊢
    have : r.length = n - 1 := by omega
    rw [this]
    omega
theorem inner_le (va : Bool) (n : Nat) (S : Nat → ByteArray) : (inner va n S).length ≤ 2 * n + tot S n + 3 := by
  by_cases hn : n = 0
  · subst hn; rw [inner_zero]; simp
  · rw [inner_length va n S (by omega)]
    split <;> omega
theorem textOf_size (va : Bool) (n : Nat) (S : Nat → ByteArray) : (textOf va n S).size = (inner va n S).length + 2 := by
  simp [textOf, ByteArray.size]

theorem textOf_eq (va : Bool) (n : Nat) (S : Nat → ByteArray) : (⟨#[40]⟩ : ByteArray) ++ ⟨(inner va n S).toArray⟩ ++ ⟨#[41]⟩ = textOf va n S := by
  have h1 := ByteArray.mk_append_mk [40] (inner va n S)
  have h2 := ByteArray.mk_append_mk ([40] ++ inner va n S) [41]
  unfold textOf
  rw [← h2, ← h1]

end Go.Proofs.Yoedyw
