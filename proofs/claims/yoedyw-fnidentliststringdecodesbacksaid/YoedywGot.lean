/-
  WHAT THE DECODING HAS GATHERED: the row of pieces; its last cell, mended. No walk here.
-/
import Derived.Test.YoedywSplit
import Derived.Deep.AppendLies
namespace Go.Proofs.Yoedyw
open Go.RowKit

theorem got_cells {w : World} {base gg cv n : Nat} {va : Bool} {S : Nat → ByteArray} (h : w.ownsRow base 9 1 (.slice (some ⟨gg, 0, none⟩) n cv) n ((pieces va n S n).map Value.string)) (j : Nat) (hj : j < n) :
    w.cell? ⟨gg, j, none⟩ = some (.string (piece va n S j)) := by
  rw [h.cellAt j (by omega), List.getElem?_map, pieces_get va n S n j hj]
  rfl

theorem got_plain {w : World} {base gg cv n : Nat} {S : Nat → ByteArray} (h : w.ownsRow base 9 1 (.slice (some ⟨gg, 0, none⟩) n cv) n ((pieces false n S n).map Value.string)) (j : Nat) (hj : j < n) :
    w.cell? ⟨gg, j, none⟩ = some (.string (S j)) := by
  rw [got_cells h j hj, piece_plain]

theorem got_stored {w : World} {base gg cv m : Nat} {S : Nat → ByteArray} (h : w.ownsRow base 9 1 (.slice (some ⟨gg, 0, none⟩) (m + 1) cv) (m + 1) ((pieces true (m + 1) S (m + 1)).map Value.string)) (j : Nat) (hj : j < m + 1) :
    (w.setCell ⟨gg, m, none⟩ (.string (S m))).cell? ⟨gg, j, none⟩ = some (.string (S j)) := by
  have h2 := (h.stored m (.string (S m))).1
  rw [h2.cellAt j (by omega), List.getElem?_set]
  by_cases e : m = j
  · subst e
    rw [if_pos rfl, if_pos (by rw [List.length_map, pieces_length]; exact hj)]
  · rw [if_neg e, List.getElem?_map, pieces_get true (m + 1) S (m + 1) j hj, piece_inner true S (by omega)]
    rfl

theorem dots_data (s : ByteArray) : ((⟨#[46, 46, 46]⟩ : ByteArray) ++ s).data.toList = 46 :: 46 :: 46 :: s.data.toList := by simp [ByteArray.data_append]
/-- A name with three dots ahead. -/
theorem dots_facts (s : ByteArray) {D : ByteArray} (hD : (⟨#[46, 46, 46]⟩ : ByteArray) ++ s = D) :
    D.size = 3 + s.size ∧ (∃ h : 0 < D.size, (D[0]'h) = 46) ∧ (∃ h : 1 < D.size, (D[1]'h) = 46) ∧ (∃ h : 2 < D.size, (D[2]'h) = 46) ∧ D.extract 3 D.size = s := by
  have hd : D.data.toList = 46 :: 46 :: 46 :: s.data.toList := by rw [← hD]; exact dots_data s
  have hs : D.size = 3 + s.size := by rw [← hD]; exact size_dots s
  refine ⟨hs, ⟨by omega, get_of _ _ _ _ (by rw [hd]; rfl)⟩, ⟨by omega, get_of _ _ _ _ (by rw [hd]; rfl)⟩, ⟨by omega, get_of _ _ _ _ (by rw [hd]; rfl)⟩, ?_⟩
  apply Go.WideShapes.bytes_inj
  rw [Lib.extract_data, hd]
  simp only [List.drop_succ_cons, List.drop_zero]
  rw [List.take_of_length_le]
  rw [length_bytes]
  omega

end Go.Proofs.Yoedyw
