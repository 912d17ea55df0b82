/-
  WHERE THE PIECES LIE IN THE TEXT, NO Go IN SIGHT: between the parentheses the k-th segment (a blank ahead of every piece but the first) lies from bg k up to en k; a comma behind every segment but the last; no other comma.
-/
import Derived.Test.YoedywText
import Derived.Test.YoedywDecodable
import Derived.WideShapes
namespace Go.Proofs.Yoedyw
open Go.RowKit

section
variable (va : Bool) (n : Nat) (S : Nat → ByteArray)

/-- The k-th segment. -/
def seg (k : Nat) : List UInt8 := if k = 0 then (piece va n S k).data.toList else 32 :: (piece va n S k).data.toList
/-- All that lies ahead of it. -/
def pre : Nat → List UInt8
  | 0 => []
  | k + 1 => pre k ++ (seg va n S k ++ [44])
def bg (k : Nat) : Nat := (pre va n S k).length
def en (k : Nat) : Nat := bg va n S k + (seg va n S k).length

theorem bg_zero : bg va n S 0 = 0 := rfl
theorem bg_succ (k : Nat) : bg va n S (k + 1) = en va n S k + 1 := by
  simp [bg, en, pre]; omega
theorem bg_le_en (k : Nat) : bg va n S k ≤ en va n S k := Nat.le_add_right _ _

theorem lists_get (k : Nat) (hk : k < n) : (lists va n S n)[k]? = some (piece va n S k).data.toList := by simp [lists, hk]

theorem split_at (k : Nat) (hk : k < n) : inner va n S = pre va n S k ++ (seg va n S k ++ Lib.joinTail [44, 32] ((lists va n S n).drop (k + 1))) := by
  induction k with
  | zero =>
    have h0 := lists_get va n S 0 hk
    unfold inner
    match hL : lists va n S n with
    | [] => rw [hL] at h0; simp at h0
    | x :: r =>
      rw [hL] at h0
      simp only [List.getElem?_cons_zero, Option.some.injEq] at h0
      rw [Lib.join_cons, h0]
      simp [pre, seg]
  | succ k ih =>
    rw [ih (by omega)]
    have h1 := lists_get va n S (k + 1) hk
    obtain ⟨hlt, hget⟩ := List.getElem?_eq_some_iff.1 h1
    rw [List.drop_eq_getElem_cons hlt, hget]
    simp [pre, seg, Lib.joinTail, List.append_assoc]

theorem en_le (k : Nat) (hk : k < n) : en va n S k ≤ (inner va n S).length := by
  rw [split_at va n S k hk]
  simp [en, bg]
theorem en_last (k : Nat) (hk : k + 1 = n) : en va n S k = (inner va n S).length := by
  rw [split_at va n S k (by omega)]
  have : (lists va n S n).drop (k + 1) = [] := by rw [List.drop_eq_nil_iff, lists_length]; omega
  rw [this]
  simp [en, bg, Lib.joinTail]
theorem comma_at (k : Nat) (hk : k + 1 < n) : (inner va n S)[en va n S k]? = some 44 := by
  rw [split_at va n S k (by omega)]
  have h1 := lists_get va n S (k + 1) hk
  obtain ⟨hlt, hget⟩ := List.getElem?_eq_some_iff.1 h1
  rw [List.drop_eq_getElem_cons hlt, hget, ← List.append_assoc, List.getElem?_append_right (by simp [en, bg])]
  simp [en, bg, Lib.joinTail]
theorem seg_clean (k : Nat) (h : Good (S k)) : ∀ b ∈ seg va n S k, ¬ b = 44 := by
  have hp : ∀ b ∈ (piece va n S k).data.toList, ¬ b = 44 := by
    have hs : ∀ b ∈ (S k).data.toList, ¬ b = 44 := by
      intro b hb
      obtain ⟨q, hq⟩ := List.getElem?_of_mem hb
      have := (List.getElem?_eq_some_iff.1 hq).1
      rw [length_bytes] at this
      exact h.2.2 q b this hq
    intro b hb
    unfold piece at hb
    split at hb
    · have e : ((⟨#[46, 46, 46]⟩ : ByteArray) ++ S k).data.toList = [46, 46, 46] ++ (S k).data.toList := by simp [ByteArray.data_append]
      rw [e] at hb
      simp only [List.cons_append, List.nil_append, List.mem_cons] at hb
      rcases hb with rfl | rfl | rfl | hb
      · decide
      · decide
      · decide
      · exact hs b hb
    · exact hs b hb
  intro b hb
  unfold seg at hb
  split at hb
  · exact hp b hb
  · simp only [List.mem_cons] at hb
    rcases hb with rfl | hb
    · decide
    · exact hp b hb
theorem no_comma (k : Nat) (hk : k < n) (h : Good (S k)) (x : Nat) (h1 : bg va n S k ≤ x) (h2 : x < en va n S k) (b : UInt8) (hb : (inner va n S)[x]? = some b) : ¬ b = 44 := by
  rw [split_at va n S k hk, List.getElem?_append_right (by simpa [bg] using h1), List.getElem?_append_left (by simp only [en, bg] at h1 h2; omega)] at hb
  exact seg_clean va n S k h b (List.mem_of_getElem? hb)
theorem cut_seg (k : Nat) (hk : k < n) : ((inner va n S).drop (bg va n S k)).take (en va n S k - bg va n S k) = seg va n S k := by
  have e : en va n S k - bg va n S k = (seg va n S k).length := by simp [en]
  rw [e, split_at va n S k hk]
  simp [bg]
end

/-- The bytes between the parentheses. -/
def innerB (va : Bool) (n : Nat) (S : Nat → ByteArray) : ByteArray := ⟨(inner va n S).toArray⟩
theorem innerB_data (va : Bool) (n : Nat) (S : Nat → ByteArray) : (innerB va n S).data.toList = inner va n S := by simp [innerB]
theorem innerB_size (va : Bool) (n : Nat) (S : Nat → ByteArray) : (innerB va n S).size = (inner va n S).length := by rw [← length_bytes, innerB_data]

theorem get_of (s : ByteArray) (x : Nat) (h : x < s.size) (b : UInt8) (hb : s.data.toList[x]? = some b) : (s[x]'h) = b := by
  rw [byte_at s x h] at hb
  exact Option.some.inj hb

theorem text_head (va : Bool) (n : Nat) (S : Nat → ByteArray) (h : 0 < (textOf va n S).size) : ((textOf va n S)[0]'h) = 40 := by
  refine get_of _ _ h _ ?_
  simp [textOf]
theorem text_end (va : Bool) (n : Nat) (S : Nat → ByteArray) (h : (textOf va n S).size - 1 < (textOf va n S).size) : ((textOf va n S)[(textOf va n S).size - 1]'h) = 41 := by
  refine get_of _ _ h _ ?_
  rw [textOf_size]
  simp [textOf]
theorem text_inner (va : Bool) (n : Nat) (S : Nat → ByteArray) : (textOf va n S).extract 1 ((textOf va n S).size - 1) = innerB va n S := by
  apply Go.WideShapes.bytes_inj
  rw [Lib.extract_data, textOf_size, innerB_data]
  simp [textOf]

/-- What is cut out at the k-th comma, or at the end. -/
theorem cut_bytes (va : Bool) (n : Nat) (S : Nat → ByteArray) (k : Nat) (hk : k < n) : ((innerB va n S).extract (bg va n S k) (en va n S k)).data.toList = seg va n S k := by
  rw [Lib.extract_data, innerB_data, cut_seg va n S k hk]
theorem cut_first (va : Bool) (n : Nat) (S : Nat → ByteArray) (hn : 0 < n) : (innerB va n S).extract (bg va n S 0) (en va n S 0) = piece va n S 0 := by
  apply Go.WideShapes.bytes_inj
  rw [cut_bytes va n S 0 hn]
  simp [seg]
/-- A later one: a blank, then the piece. -/
theorem cut_later (va : Bool) (n : Nat) (S : Nat → ByteArray) (k : Nat) (hk : k < n) (h0 : ¬ k = 0) {Y : ByteArray} (hY : (innerB va n S).extract (bg va n S k) (en va n S k) = Y) :
    ∃ h : 0 < Y.size, (Y[0]'h) = 32 ∧ Y.extract 1 Y.size = piece va n S k := by
  have hd : Y.data.toList = 32 :: (piece va n S k).data.toList := by
    rw [← hY, cut_bytes va n S k hk]
    simp [seg, h0]
  have hs : Y.size = (piece va n S k).size + 1 := by
    rw [← length_bytes Y, hd, List.length_cons, length_bytes]
  refine ⟨by omega, get_of _ _ _ _ (by rw [hd]; rfl), ?_⟩
  apply Go.WideShapes.bytes_inj
  rw [Lib.extract_data, hd, List.drop_succ_cons, List.drop_zero, List.take_of_length_le]
  rw [length_bytes]
  omega
theorem seg_length (va : Bool) (n : Nat) (S : Nat → ByteArray) (k : Nat) (h : Good (S k)) : 0 < (seg va n S k).length := by
  unfold seg
  split
  · rw [length_bytes]
    unfold piece
    split
    · rw [size_dots]; omega
    · exact h.1
  · simp

end Go.Proofs.Yoedyw
