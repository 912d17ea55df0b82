/-
  (*IdentList).String (24) BY ITS CONTRACT.
-/
import Derived.Test.YoedywList
import Derived.Test.YoedywText
import Derived.Test.YoedywClone
import Derived.Test.YoedywShelf
namespace Go.Proofs.Yoedyw
open Go.RowKit

/-- A call that answers the string s and turns nothing that was there. -/
def Says (w : World) (s : ByteArray) (e : Ending) (w' : World) : Prop := e = .returned (.string s) ∧ Below w.heap.size w w'

set_option maxHeartbeats 2000000 in
theorem string_full (p : Nat) (va : Bool) (n : Nat) (S : Nat → ByteArray) (g off cap : Nat) (Z : Nat → Int) (w : World)
    (h1 : w.cell? ⟨p, 1, none⟩ = some (.bool va)) (h2 : w.cell? ⟨p, 2, none⟩ = some (.slice (some ⟨g, off, none⟩) n cap))
    (hc : ∀ j, j < n → ∃ b, w.cell? ⟨g, off + j, none⟩ = some (.pointer (some ⟨b, 0, none⟩)) ∧ w.cell? ⟨b, 0, none⟩ = some (.string (S j)) ∧ w.cell? ⟨b, 1, none⟩ = some (.int .i64 (Z j)))
    (hn0 : 0 < n) (hn : n ≤ 1048576) (hS : tot S n ≤ 1048576) :
    Calls Edyg.prog 24 #[.pointer (some ⟨p, 0, none⟩)] w (Says w (textOf va n S)) := by
  obtain ⟨i0, hi, hz0, hz1, hz2⟩ := info_parts Edyg.info9
  have HT : Hid (tot S n ≤ 1048576) := hS
  clear hS
  go_enter Edyg.func24, Edyg.ntmps24
  go_wp2
  go_loopw [3, 11] (fun v i wr => ∃ (k cv : Nat) (ao : Option Addr), k ≤ n ∧ i = .int .i64 k ∧ v = .slice ao k cv ∧ wr.ownsRow w.heap.size 9 1 (.slice ao k cv) k ((pieces va n S k).map Value.string) ∧ Below w.heap.size w wr) (fun _ i _ => n - (intOf i).toNat)
  case atStart => exact ⟨0, 0, none, Nat.zero_le _, rfl, rfl, World.ownsRow_nil _ _ _ _, Below.refl _ _⟩
  case round =>
    obtain ⟨k, cv, ao, hk, rfl, rfl, hown, hb⟩ := hrel
    have hsz := hb.size
    by_cases hlt : k < n
    · obtain ⟨b, c1, c2, _⟩ := hc k hlt
      have d1 : wr.cell? ⟨g, off + k, none⟩ = some (.pointer (some ⟨b, 0, none⟩)) := cell_later hb c1
      have d2 : wr.cell? ⟨b, 0, none⟩ = some (.string (S k)) := cell_later hb c2
      have d3 : wr.cell? ⟨p, 1, none⟩ = some (.bool va) := cell_later hb h1
      have d4 : wr.cell? ⟨p, 2, none⟩ = some (.slice (some ⟨g, off, none⟩) n cap) := cell_later hb h2
      have hs1 : (S k).size ≤ 1048576 := by have := size_le_tot S hlt; have := HT.out; omega
      have HP : Hid ((pieces va n S (k + 1)).map Value.string = (pieces va n S k).map Value.string ++ [Value.string (piece va n S k)]) := by show _ = _; rw [pieces_succ]; simp
      obtain ⟨xs, hxs⟩ : ∃ xs, xs = (pieces va n S k).map Value.string := ⟨_, rfl⟩
      rw [← hxs] at hown HP
      have hcase : (va = true ∧ k + 1 = n) ∨ (va = true ∧ ¬ k + 1 = n) ∨ va = false := by
        cases va
        · exact .inr (.inr rfl)
        · by_cases h : k + 1 = n
          · exact .inl ⟨rfl, h⟩
          · exact .inr (.inl ⟨rfl, h⟩)
      rcases hcase with ⟨rfl, hkn⟩ | ⟨rfl, hkn⟩ | rfl
      · have hpc : piece true n S k = ⟨#[46, 46, 46]⟩ ++ S k := by rw [← hkn]; exact piece_last S k
        rw [hpc] at HP
        obtain ⟨s, hs⟩ : ∃ s, s = S k := ⟨_, rfl⟩
        rw [← hs] at d2 hs1 HP
        have t1 : ((k : Int) == (n : Int) - 1) = true := by simp; omega
        have hadd := fun wx : World => run_string_add_sum (P := Edyg.prog) wx ⟨#[46, 46, 46]⟩ s (by have : (⟨#[46, 46, 46]⟩ : ByteArray).size = 3 := rfl; omega)
        have HKN : Hid (k + 1 = n) := hkn
        clear hc c1 c2 hs hxs h1 h2 hkn hpc
        go_wp2_with (first | (at_builtin; refine wpList_append_lies _ rfl _ _ _ rfl w.heap.size 9 i0 _ 1 16 Edyg.underlying22 hi hz0 hz1 hz2 rfl (by omega) (.slice ao k cv) k xs rfl (hown.alloc _) ⟨wr.heap.size, 0, none⟩ 1 1 [.string (⟨#[46, 46, 46]⟩ ++ s)] rfl rfl (cell_one_new _ _ _) (by simp [Value.oneCell']) (by omega) (by unfold maxLen; omega) (by omega) (by simp; omega) (wr.heap.size + 1) (by simp) ?_; intro gg cap' w1 hown1 hgrow hat hlt1) | go_in)
        go_roundw
        case rel => exact ⟨k + 1, cap', some ⟨gg, 0, none⟩, by omega, by go_num, rfl, by rw [HP.out]; exact hown1, (hb.alloc hsz _).grown hgrow (by simp; omega) (fun q hq => (hown.lt q hq).1)⟩
        case measure => simp [intOf]; omega
      · have hpc : piece true n S k = S k := piece_inner true S hkn
        rw [hpc] at HP
        obtain ⟨s, hs⟩ : ∃ s, s = S k := ⟨_, rfl⟩
        rw [← hs] at d2 hs1 HP
        have t1 : ((k : Int) == (n : Int) - 1) = false := by simp; omega
        clear hc c1 c2 hs hxs h1 h2 hpc
        go_wp2_with (first | (at_builtin; refine wpList_append_lies _ rfl _ _ _ rfl w.heap.size 9 i0 _ 1 16 Edyg.underlying22 hi hz0 hz1 hz2 rfl (by omega) (.slice ao k cv) k xs rfl (hown.alloc _) ⟨wr.heap.size, 0, none⟩ 1 1 [.string s] rfl rfl (cell_one_new _ _ _) (by simp [Value.oneCell']) (by omega) (by unfold maxLen; omega) (by omega) (by simp; omega) (wr.heap.size + 1) (by simp) ?_; intro gg cap' w1 hown1 hgrow hat hlt1) | go_in)
        go_roundw
        case rel => exact ⟨k + 1, cap', some ⟨gg, 0, none⟩, by omega, by go_num, rfl, by rw [HP.out]; exact hown1, (hb.alloc hsz _).grown hgrow (by simp; omega) (fun q hq => (hown.lt q hq).1)⟩
        case measure => simp [intOf]; omega
      · have hpc : piece false n S k = S k := piece_plain n S k
        rw [hpc] at HP
        obtain ⟨s, hs⟩ : ∃ s, s = S k := ⟨_, rfl⟩
        rw [← hs] at d2 hs1 HP
        clear hc c1 c2 hs hxs h1 h2 hpc
        go_wp2_with (first | (at_builtin; refine wpList_append_lies _ rfl _ _ _ rfl w.heap.size 9 i0 _ 1 16 Edyg.underlying22 hi hz0 hz1 hz2 rfl (by omega) (.slice ao k cv) k xs rfl (hown.alloc _) ⟨wr.heap.size, 0, none⟩ 1 1 [.string s] rfl rfl (cell_one_new _ _ _) (by simp [Value.oneCell']) (by omega) (by unfold maxLen; omega) (by omega) (by simp; omega) (wr.heap.size + 1) (by simp) ?_; intro gg cap' w1 hown1 hgrow hat hlt1) | go_in)
        go_roundw
        case rel => exact ⟨k + 1, cap', some ⟨gg, 0, none⟩, by omega, by go_num, rfl, by rw [HP.out]; exact hown1, (hb.alloc hsz _).grown hgrow (by simp; omega) (fun q hq => (hown.lt q hq).1)⟩
        case measure => simp [intOf]; omega
    · obtain rfl : k = n := by omega
      obtain ⟨gg, hao⟩ : ∃ gg, ao = some ⟨gg, 0, none⟩ := by
        obtain ⟨gg, cap', hv, _⟩ := hown.form hn0
        simp only [Value.slice.injEq] at hv
        exact ⟨gg, hv.1⟩
      subst hao
      have hcells : ∀ (j : Nat) x, (pieces va k S k)[j]? = some x → wr.cell? ⟨gg, 0 + j, none⟩ = some (.string x) := by
        intro j x hj
        have hjl := (List.getElem?_eq_some_iff.1 hj).1
        rw [pieces_length] at hjl
        rw [Nat.zero_add, hown.cellAt j (by omega)]
        simp [hj]
      have hgl : gg < wr.heap.size := World.block_lt_of_cell? _ _ (hcells 0 _ (pieces_get va k S k 0 hn0))
      have hcap : (pieces va k S k).length ≤ cv := by
        rw [pieces_length]
        rcases hown.2 with ⟨h, _⟩ | ⟨g', cap', _, h, _, _, hn, _⟩
        · cases h
        · simp only [Value.slice.injEq] at h
          omega
      have hlen : (Lib.join ((pieces va k S k).map (·.data.toList)) (⟨#[44, 32]⟩ : ByteArray).data.toList).length ≤ 140737488355328 := by
        rw [lists_eq]
        have := inner_le va k S
        have := HT.out
        show (inner va k S).length ≤ _
        omega
      have HJ := Edyg.strings_Join gg 0 cv (pieces va k S k) ⟨#[44, 32]⟩ wr hcells hgl (by rw [pieces_length]; omega) hcap hlen
      rw [lists_eq, pieces_length] at HJ
      have HJ' : Hid (Calls Edyg.prog 32 #[.slice (some ⟨gg, 0, none⟩) k cv, .string ⟨#[44, 32]⟩] wr fun e w' => e = .returned (.string ⟨(inner va k S).toArray⟩) ∧ Below wr.heap.size wr w') := HJ
      have hX1 : (⟨(inner va k S).toArray⟩ : ByteArray).size ≤ 8388608 := by
        have := inner_le va k S
        have := HT.out
        show (inner va k S).length ≤ _
        omega
      have HX := textOf_eq va k S
      have HX' : Hid ((⟨#[40]⟩ : ByteArray) ++ ⟨(inner va k S).toArray⟩ ++ ⟨#[41]⟩ = textOf va k S) := HX
      clear HJ HX hcells hgl hcap hlen hc h1 h2
      generalize (⟨(inner va k S).toArray⟩ : ByteArray) = X at HJ' hX1 HX'
      have e40 : (⟨#[40]⟩ : ByteArray).size = 1 := rfl
      have e41 : (⟨#[41]⟩ : ByteArray).size = 1 := rfl
      have hadd1 := fun wx : World => run_string_add_sum (P := Edyg.prog) wx ⟨#[40]⟩ X (by omega)
      have hadd2 := fun wx : World => run_string_add_sum (P := Edyg.prog) wx (⟨#[40]⟩ ++ X) ⟨#[41]⟩ (by rw [ByteArray.size_append]; omega)
      clear e40 e41
      go_wp2_with fail
      refine HJ'.out.mono ?_
      rintro e w5 ⟨rfl, hb5⟩
      go_wp2
      go_ret
      exact ⟨by rw [← HX'.out]; rfl, chain hb hb5⟩

set_option maxHeartbeats 400000 in
theorem string_empty (p : Nat) (va : Bool) (S : Nat → ByteArray) (ad : Option Addr) (cap : Nat) (w : World)
    (h2 : w.cell? ⟨p, 2, none⟩ = some (.slice ad 0 cap)) :
    Calls Edyg.prog 24 #[.pointer (some ⟨p, 0, none⟩)] w (Says w (textOf va 0 S)) := by
  have HX : Hid (textOf va 0 S = ⟨#[40, 41]⟩) := by show _ = _; simp [textOf, inner_zero]
  go_enter Edyg.func24, Edyg.ntmps24
  go_wp2
  refine wp_loop_rounds 1 ?_
  rw [rounds_succ]
  go_wp2_with fail
  refine (Edyg.strings_Join_none none 0 _ _).mono ?_
  rintro e w' ⟨rfl, hw⟩
  rw [hw]
  clear hw w'
  go_wp2
  go_ret
  exact ⟨by rw [HX.out]; rfl, Below.refl _ _⟩

/-- (*IdentList).String: the text; nothing that was there has turned. -/
theorem string_any (p : Nat) (lp rp : Int) (va : Bool) (n : Nat) (S : Nat → ByteArray) (Z : Nat → Int) (w : World) (h : ListAt w p lp rp va n S Z) (hn : n ≤ 1048576) (hS : tot S n ≤ 1048576) :
    Calls Edyg.prog 24 #[.pointer (some ⟨p, 0, none⟩)] w (Says w (textOf va n S)) := by
  obtain ⟨ad, cap, _, h1, h2, _, hr⟩ := h
  rcases hr with rfl | ⟨g, off, rfl, hc⟩
  · exact string_empty p va S ad cap w h2
  · by_cases hn0 : n = 0
    · subst hn0
      exact string_empty p va S _ cap w h2
    · exact string_full p va n S g off cap Z w h1 h2 hc (by omega) hn hS

end Go.Proofs.Yoedyw
