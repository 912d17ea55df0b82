/-
  HOW MANY COMMAS THE TEXT HOLDS, NO Go IN SIGHT.
-/
import Derived.Test.YoedywText
import Derived.Test.YoedywDecodable
namespace Go.Proofs.Yoedyw
open Go.RowKit

/-- The commas among the bytes. -/
def commas (l : List UInt8) : Nat := l.count 44
theorem commas_append (x y : List UInt8) : commas (x ++ y) = commas x + commas y := by simp [commas]
theorem commas_le (l : List UInt8) : commas l ≤ l.length := List.count_le_length

theorem commas_clean {l : List UInt8} (h : Clean l l.length) : commas l = 0 := by
  unfold commas
  rw [List.count_eq_zero]
  intro hm
  obtain ⟨q, hq⟩ := List.getElem?_of_mem hm
  exact h q 44 (List.getElem?_eq_some_iff.1 hq).1 hq rfl

theorem commas_name {s : ByteArray} (h : Good s) : commas s.data.toList = 0 := commas_clean (by rw [length_bytes]; exact h.2.2)
theorem commas_piece (va : Bool) (n : Nat) (S : Nat → ByteArray) (j : Nat) (h : Good (S j)) : commas (piece va n S j).data.toList = 0 := by
  unfold piece
  split
  · have e : ((⟨#[46, 46, 46]⟩ : ByteArray) ++ S j).data.toList = [46, 46, 46] ++ (S j).data.toList := by simp [ByteArray.data_append]
    rw [e, commas_append, commas_name h]
    rfl
  · exact commas_name h

theorem commas_tail (r : List (List UInt8)) (h : ∀ x ∈ r, commas x = 0) : commas (Lib.joinTail [44, 32] r) = r.length := by
  induction r with
  | nil => rfl
  | cons x r ih =>
    have h1 := h x (by simp)
    have h2 := ih (fun y hy => h y (by simp [hy]))
    simp only [Lib.joinTail, List.map_cons, List.flatten_cons, commas_append, List.length_cons] at h2 ⊢
    rw [h2, h1]
    have : commas [44, 32] = 1 := by decide
    omega

/-- n pieces: n - 1 commas. -/
theorem commas_text (va : Bool) (n : Nat) (S : Nat → ByteArray) (hn : 0 < n) (h : Goods S n) : commas (textOf va n S).data.toList + 1 = n := by
  have hl := lists_length va n S n
  have hx : ∀ x ∈ lists va n S n, commas x = 0 := by
    intro x hx
    simp only [lists, List.mem_map, List.mem_range] at hx
    obtain ⟨j, hj, rfl⟩ := hx
    exact commas_piece va n S j (h j hj)
  have e : (textOf va n S).data.toList = [40] ++ inner va n S ++ [41] := by simp [textOf]
  have e1 : commas [40] = 0 := by decide
  have e2 : commas [41] = 0 := by decide
  rw [e, commas_append, commas_append, e1, e2]
  unfold inner
  match hL : lists va n S n with
  | [] => rw [hL] at hl; simp at hl; omega
  | x :: r =>
    rw [hL] at hl hx
    rw [Lib.join_cons, commas_append, hx x (by simp), commas_tail r (fun y hy => hx y (by simp [hy]))]
    simp at hl
    omega

theorem commas_take (s : ByteArray) (k : Nat) (h : k < s.size) : commas (s.data.toList.take (k + 1)) = commas (s.data.toList.take k) + (if (s[k]'h) = 44 then 1 else 0) := by
  rw [List.take_add_one, byte_at s k h, commas_append]
  congr 1
  unfold commas
  simp only [Option.toList_some, List.count_singleton]
  by_cases e : (s[k]'h) = 44 <;> simp [e]

theorem text_long (va : Bool) (n : Nat) (S : Nat → ByteArray) (hn : 0 < n) (h : Goods S n) : 3 ≤ (textOf va n S).size := by
  rw [textOf_size, inner_length va n S hn]
  have h0 := (h 0 hn).1
  have := size_le_tot S hn
  simp only [tot] at this
  omega

end Go.Proofs.Yoedyw
