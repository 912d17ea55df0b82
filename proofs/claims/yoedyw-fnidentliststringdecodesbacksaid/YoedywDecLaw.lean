/-
  FnIdentListStringDecodesBack (7): THE WALK.
-/
import Derived.Test.YoedywSizes
import Derived.Test.YoedywZz
import Derived.Test.YoedywNames
import Derived.Test.YoedywString
import Derived.Test.YoedywSplit
import Derived.Test.YoedywGot
import Derived.Deep.Cut
import Derived.Deep.QuietTactic
import Derived.BigQuiet
namespace Go.Proofs.Yoedyw
open Go.RowKit

set_option maxRecDepth 20000 in
set_option maxHeartbeats 4000000 in
theorem decLaw (va : Bool) (a : Option Addr) (n c : Nat) (S : Nat → ByteArray) (w : World) (hr : StrRow w a n S) (hn : n ≤ 9223372036854775807) :
    Calls Edyg.prog 7 #[.bool va, .slice a n c] w (Holds w) := by
  obtain ⟨i0, hi, hz0, hz1, hz2⟩ := info_parts Edyg.info9
  go_enter Edyg.func7, Edyg.ntmps7
  go_wp2_with fail
  refine (zz26 va a n c S w hr hn).mono ?_
  rintro e w' ⟨t, rfl, rfl, ht⟩
  match t, ht with
  | false, _ =>
    go_wp2
    go_ret
    exact ⟨rfl, Below.refl _ _⟩
  | true, ht =>
  have q1 := ht rfl
  clear ht
  go_wp2_with fail
  refine (namesSize_any a n c S w hr (by omega)).mono ?_
  rintro e w' ⟨t1, rfl, rfl, u1, u2, u3⟩
  by_cases hs : 1048576 < t1
  · go_wp2
    go_ret
    exact ⟨rfl, Below.refl _ _⟩
  clear u3
  go_wp2_with fail
  refine (decodable_any a n c S w hr (by omega) (by omega)).mono ?_
  rintro e w' ⟨t, rfl, rfl, ht⟩
  match t, ht with
  | false, _ =>
    go_wp2
    go_ret
    exact ⟨rfl, Below.refl _ _⟩
  | true, ht =>
  have HG : Hid (Goods S n) := ht rfl
  clear ht
  go_wp2_with fail
  refine (cloneStrings_any _ _ _ S w hr (by omega)).mono ?_
  rintro e w1 ⟨a', c', rfl, r1, k1⟩
  go_wp2_with fail
  refine (names_any va _ _ _ S w1 r1 (by omega)).mono ?_
  rintro e w2 ⟨p, rfl, L, k2⟩
  go_wp2_with fail
  refine (string_any p 0 0 va n S _ w2 L (by omega) (by omega)).mono ?_
  rintro e w3 ⟨rfl, k3⟩
  have r3 := (r1.later k2).later k3
  have j3 := chain (chain k1 k2) k3
  have HT : Hid (tot S n ≤ 1048576) := by show _ ≤ _; omega
  have hn1 : n ≤ 1048576 := by omega
  obtain ⟨T, hTe, hB, h2, H40, H41, HI, HIs⟩ : ∃ T : ByteArray, textOf va n S = T ∧ T.size ≤ 4194304 ∧ 2 ≤ T.size ∧ Hid (∃ h : 0 < T.size, (((T[0]'h).toNat : Int) != 40) = false) ∧ Hid (∃ h : T.size - 1 < T.size, (((T[T.size - 1]'h).toNat : Int) != 41) = false) ∧
      Hid (T.extract 1 (T.size - 1) = innerB va n S) ∧ Hid ((innerB va n S).size = T.size - 2) := by
    have e := textOf_size va n S
    have e2 := inner_le va n S
    refine ⟨_, rfl, by omega, by omega, ⟨by omega, by rw [text_head]; rfl⟩, ⟨by omega, by rw [text_end]; rfl⟩, text_inner va n S, ?_⟩
    show _ = _
    rw [innerB_size]
    omega
  clear r1 k1 k2 k3 L q1 hn
  rw [hTe]
  clear hTe
  obtain ⟨I, hIe⟩ : ∃ I, I = innerB va n S := ⟨_, rfl⟩
  rw [← hIe] at HI HIs
  have HE : Hid (I = innerB va n S) := hIe
  have hIs : I.size ≤ 4194304 := by have := HIs.out; omega
  clear hIe HIs
  go_upto_region 12 with fail
  · exfalso
    obtain ⟨h, e⟩ := H41.out
    have hd : (T.size : Int) < 2 ∨ (((T[T.size - 1]'h).toNat : Int) != 41) = true := by assumption
    rcases hd with hd | hd
    · omega
    · rw [e] at hd; cases hd
  rotate_left
  · exfalso
    obtain ⟨h, e⟩ := H40.out
    have hd : ¬ ((T[0]'h).toNat : Int) = 40 := by assumption
    exact hd (by simpa using e)
  go_cut [7] from 15 (fun s7 wc => s7 = .string I ∧ w3 = wc)
  case first =>
    go_wp2
    go_meet
    case rel => exact ⟨by rw [← HI.out], rfl⟩
  case rest =>
  obtain ⟨rfl, rfl⟩ := hcut
  rename 2 ≤ (T.size : Int) ∧ _ => y1
  rename 1 ≤ (T.size : Int) ∧ _ => y2
  rename _ = (40 : Int) => y3
  clear y1 y2 y3 H40 H41 HI
  by_cases hn0 : n = 0
  · subst hn0
    have hI0 : I.size = 0 := by rw [HE.out, innerB_size, inner_zero]; rfl
    have hI0' : (I.size : Int) = 0 := by omega
    go_wp2_with fail
    refine wp_loop_rounds 1 ?_
    rw [rounds_succ]
    cases va
    · go_wp2
      go_ret
      exact ⟨by simp, j3⟩
    · go_wp2
      go_ret
      exact ⟨by simp, j3⟩
  rcases r3 with h | ⟨nb, no, rfl, hcn⟩
  · omega
  have HCN : Hid (∀ j, j < n → w3.cell? ⟨nb, no + j, none⟩ = some (.string (S j))) := hcn
  clear hcn
  have FE : Hid (∀ k, k < n → en va n S k ≤ I.size) := by
    intro k hk
    rw [HE.out, innerB_size]
    exact en_le va n S k hk
  have FL : Hid (∀ k, k + 1 = n → en va n S k = I.size) := by
    intro k hk
    rw [HE.out, innerB_size]
    exact en_last va n S k hk
  have FC : Hid (∀ k, k + 1 < n → ∃ h : en va n S k < I.size, (I[en va n S k]'h) = 44) := by
    intro k hk
    have h1 := comma_at va n S k hk
    have h2 := (List.getElem?_eq_some_iff.1 h1).1
    have h3 : I.size = (inner va n S).length := by rw [HE.out, innerB_size]
    refine ⟨by omega, get_of _ _ _ _ ?_⟩
    rw [HE.out, innerB_data]
    exact h1
  have FN : Hid (∀ k x, k < n → bg va n S k ≤ x → x < en va n S k → ∃ h : x < I.size, ¬ (I[x]'h) = 44) := by
    intro k x hk h1 h2
    have h3 := FE.out k hk
    have h4 : x < I.size := by omega
    refine ⟨h4, no_comma va n S k hk (HG.out k hk) x h1 h2 _ ?_⟩
    have := byte_at I x h4
    rw [← this, HE.out, innerB_data]
  have hIp : 0 < I.size := by
    have h1 := FE.out 0 (by omega)
    have h2 := seg_length va n S 0 (HG.out 0 (by omega))
    simp only [en, bg_zero] at h1
    omega
  go_wp2_with fail
  go_loopw [8, 10, 11] (fun v st i wr => ∃ (k x cv : Nat) (ao : Option Addr), k ≤ n ∧ bg va n S k ≤ x ∧ (k < n → x ≤ en va n S k) ∧ (k = n → x = bg va n S k) ∧ i = .int .i64 x ∧ st = .int .i64 (bg va n S k) ∧ v = .slice ao k cv ∧ wr.ownsRow w3.heap.size 9 1 (.slice ao k cv) k ((pieces va n S k).map Value.string) ∧ Below w3.heap.size w3 wr) (fun _ _ i _ => I.size + 2 - (intOf i).toNat)
  case atStart => exact ⟨0, 0, 0, none, Nat.zero_le _, Nat.le_refl _, fun _ => Nat.zero_le _, fun _ => rfl, rfl, rfl, rfl, World.ownsRow_nil _ _ _ _, Below.refl _ _⟩
  case round =>
    obtain ⟨k, x, cv, ao, hk, hx1, hx2, hx3, rfl, rfl, rfl, hown, hb⟩ := hrel
    have hsz := hb.size
    by_cases hkn : k < n
    · have hxe := hx2 hkn
      have heI := FE.out k hkn
      by_cases hlt : x < en va n S k
      · obtain ⟨hxI, hne⟩ := FN.out k x hkn hx1 hlt
        have t1 : ((x : Int) == (I.size : Int)) = false := by simp; omega
        have t2 : (((I[x]'hxI).toNat : Int) == 44) = false := by
          rw [beq_eq_false_iff_ne]
          intro e
          apply hne
          apply UInt8.toNat_inj.1
          have h2 : (44 : UInt8).toNat = 44 := rfl
          omega
        have HX : Hid (bg va n S k ≤ x ∧ x < en va n S k) := ⟨hx1, hlt⟩
        generalize hbg : bg va n S k = s0
        have HBG : Hid (bg va n S k = s0) := hbg
        clear hne hx1 hx2 hx3 hxe heI hlt hbg
        go_wp2
        go_roundw
        case rel =>
          have h1 := HX.out
          exact ⟨k, x + 1, cv, ao, by omega, by omega, fun _ => by omega, fun h => by omega, by go_num, by rw [HBG.out], rfl, hown, hb⟩
        case measure => simp [intOf]; omega
      · have hxx : x = en va n S k := by omega
        have HP : Hid ((pieces va n S (k + 1)).map Value.string = (pieces va n S k).map Value.string ++ [Value.string (piece va n S k)]) := by show _ = _; rw [pieces_succ]; simp
        obtain ⟨xs, hxs⟩ : ∃ xs, xs = (pieces va n S k).map Value.string := ⟨_, rfl⟩
        rw [← hxs] at hown HP
        have hse := bg_le_en va n S k
        have hFL := FL.out k
        have hFC := FC.out k
        obtain ⟨s0, hbg⟩ : ∃ s0, bg va n S k = s0 := ⟨_, rfl⟩
        obtain ⟨e0, hen⟩ : ∃ e0, en va n S k = e0 := ⟨_, rfl⟩
        rw [hbg] at hse
        rw [hen] at hxx hse heI
        subst hxx
        clear hx1 hx2 hx3 hxe hlt
        by_cases hlast : k + 1 = n
        · have hL := hFL hlast
          rw [hen] at hL
          have t1 : ((x : Int) == (I.size : Int)) = true := by simp; omega
          clear hFL hFC hL hlast
          by_cases hk0 : k = 0
          · have hY : I.extract (bg va n S k) (en va n S k) = piece va n S k := by subst hk0; rw [HE.out]; exact cut_first va n S hkn
            obtain ⟨Y, hYe⟩ : ∃ Y, Y = piece va n S k := ⟨_, rfl⟩
            rw [← hYe] at hY HP
            rw [hbg, hen] at hY
            have HY : Hid (I.extract s0 x = Y) := hY
            have HEN : Hid (en va n S k = x) := hen
            rw [hbg]
            clear hY hYe hbg hen hxs
            subst hk0
            go_upto_region 22 with fail
            rw [HY.out]
            go_wp2_with (at_builtin; refine wpList_append_lies _ rfl _ _ _ rfl w3.heap.size 9 i0 _ 1 16 Edyg.underlying22 hi hz0 hz1 hz2 rfl (by omega) (.slice ao 0 cv) 0 xs rfl (hown.alloc _) ⟨wr.heap.size, 0, none⟩ 1 1 [.string Y] rfl rfl (cell_one_new _ _ _) (by simp [Value.oneCell']) (by omega) (by unfold maxLen; omega) (by omega) (by simp; omega) (wr.heap.size + 1) (by simp) ?_; intro gg cap' w4 hown4 hgrow hat hlt4)
            go_roundw
            case rel =>
              refine ⟨0 + 1, x + 1, cap', some ⟨gg, 0, none⟩, by omega, ?_, ?_, ?_, by go_num, ?_, rfl, by rw [HP.out]; exact hown4, (hb.alloc hsz _).grown hgrow (by simp; omega) (fun q hq => (hown.lt q hq).1)⟩
              · rw [bg_succ, HEN.out]; exact Nat.le_refl _
              · intro _; have := bg_le_en va n S (0 + 1); rw [bg_succ, HEN.out] at this; exact this
              · intro _; rw [bg_succ, HEN.out]
              · rw [bg_succ, HEN.out]; go_num
            case measure => simp [intOf]; omega
          · obtain ⟨Y, hYe⟩ : ∃ Y, I.extract (bg va n S k) (en va n S k) = Y := ⟨_, rfl⟩
            obtain ⟨hY0, hY32, hYx⟩ := cut_later va n S k hkn hk0 (show (innerB va n S).extract (bg va n S k) (en va n S k) = Y by rw [← HE.out]; exact hYe)
            have hYs : Y.size ≤ 4194304 := by rw [← hYe, ByteArray.size_extract]; omega
            obtain ⟨V, hVe⟩ : ∃ V, V = piece va n S k := ⟨_, rfl⟩
            rw [← hVe] at hYx HP
            rw [hbg, hen] at hYe
            have HY : Hid (I.extract s0 x = Y) := hYe
            have HV : Hid (Y.extract 1 Y.size = V) := hYx
            have HEN : Hid (en va n S k = x) := hen
            rw [hbg]
            have y0 : ((Y.size : Int) == 0) = false := by rw [beq_eq_false_iff_ne]; omega
            have y1 : (((Y[0]'hY0).toNat : Int) != 32) = false := by rw [hY32]; rfl
            have hk1 : 0 < k := by omega
            have hk1' : (0 : Int) < (k : Int) := by omega
            clear hYe hVe hYx hbg hen hxs hY32
            go_upto_region 22 with fail
            rw [HY.out]
            go_upto_region 26 with fail
            rw [HV.out]
            go_wp2_with (at_builtin; refine wpList_append_lies _ rfl _ _ _ rfl w3.heap.size 9 i0 _ 1 16 Edyg.underlying22 hi hz0 hz1 hz2 rfl (by omega) (.slice ao k cv) k xs rfl (hown.alloc _) ⟨wr.heap.size, 0, none⟩ 1 1 [.string V] rfl rfl (cell_one_new _ _ _) (by simp [Value.oneCell']) (by omega) (by unfold maxLen; omega) (by omega) (by simp; omega) (wr.heap.size + 1) (by simp) ?_; intro gg cap' w4 hown4 hgrow hat hlt4)
            go_roundw
            case rel =>
              refine ⟨k + 1, x + 1, cap', some ⟨gg, 0, none⟩, by omega, ?_, ?_, ?_, by go_num, ?_, rfl, by rw [HP.out]; exact hown4, (hb.alloc hsz _).grown hgrow (by simp; omega) (fun q hq => (hown.lt q hq).1)⟩
              · rw [bg_succ, HEN.out]; exact Nat.le_refl _
              · intro _; have := bg_le_en va n S (k + 1); rw [bg_succ, HEN.out] at this; exact this
              · intro _; rw [bg_succ, HEN.out]
              · rw [bg_succ, HEN.out]; go_num
            case measure => simp [intOf]; omega
        · obtain ⟨hxI', hI44'⟩ := hFC (by omega)
          obtain ⟨hxI, hI44⟩ : ∃ h : x < I.size, (I[x]'h) = 44 := by subst hen; exact ⟨hxI', hI44'⟩
          have t1 : ((x : Int) == (I.size : Int)) = false := by simp; omega
          have t2 : (((I[x]'hxI).toNat : Int) == 44) = true := by rw [hI44]; rfl
          clear hFL hFC hI44 hI44' hxI' hlast
          by_cases hk0 : k = 0
          · have hY : I.extract (bg va n S k) (en va n S k) = piece va n S k := by subst hk0; rw [HE.out]; exact cut_first va n S hkn
            obtain ⟨Y, hYe⟩ : ∃ Y, Y = piece va n S k := ⟨_, rfl⟩
            rw [← hYe] at hY HP
            rw [hbg, hen] at hY
            have HY : Hid (I.extract s0 x = Y) := hY
            have HEN : Hid (en va n S k = x) := hen
            rw [hbg]
            clear hY hYe hbg hen hxs
            subst hk0
            go_upto_region 22 with fail
            rw [HY.out]
            go_wp2_with (at_builtin; refine wpList_append_lies _ rfl _ _ _ rfl w3.heap.size 9 i0 _ 1 16 Edyg.underlying22 hi hz0 hz1 hz2 rfl (by omega) (.slice ao 0 cv) 0 xs rfl (hown.alloc _) ⟨wr.heap.size, 0, none⟩ 1 1 [.string Y] rfl rfl (cell_one_new _ _ _) (by simp [Value.oneCell']) (by omega) (by unfold maxLen; omega) (by omega) (by simp; omega) (wr.heap.size + 1) (by simp) ?_; intro gg cap' w4 hown4 hgrow hat hlt4)
            go_roundw
            case rel =>
              refine ⟨0 + 1, x + 1, cap', some ⟨gg, 0, none⟩, by omega, ?_, ?_, ?_, by go_num, ?_, rfl, by rw [HP.out]; exact hown4, (hb.alloc hsz _).grown hgrow (by simp; omega) (fun q hq => (hown.lt q hq).1)⟩
              · rw [bg_succ, HEN.out]; exact Nat.le_refl _
              · intro _; have := bg_le_en va n S (0 + 1); rw [bg_succ, HEN.out] at this; exact this
              · intro _; rw [bg_succ, HEN.out]
              · rw [bg_succ, HEN.out]; go_num
            case measure => simp [intOf]; omega
          · obtain ⟨Y, hYe⟩ : ∃ Y, I.extract (bg va n S k) (en va n S k) = Y := ⟨_, rfl⟩
            obtain ⟨hY0, hY32, hYx⟩ := cut_later va n S k hkn hk0 (show (innerB va n S).extract (bg va n S k) (en va n S k) = Y by rw [← HE.out]; exact hYe)
            have hYs : Y.size ≤ 4194304 := by rw [← hYe, ByteArray.size_extract]; omega
            obtain ⟨V, hVe⟩ : ∃ V, V = piece va n S k := ⟨_, rfl⟩
            rw [← hVe] at hYx HP
            rw [hbg, hen] at hYe
            have HY : Hid (I.extract s0 x = Y) := hYe
            have HV : Hid (Y.extract 1 Y.size = V) := hYx
            have HEN : Hid (en va n S k = x) := hen
            rw [hbg]
            have y0 : ((Y.size : Int) == 0) = false := by rw [beq_eq_false_iff_ne]; omega
            have y1 : (((Y[0]'hY0).toNat : Int) != 32) = false := by rw [hY32]; rfl
            have hk1 : 0 < k := by omega
            have hk1' : (0 : Int) < (k : Int) := by omega
            clear hYe hVe hYx hbg hen hxs hY32
            go_upto_region 22 with fail
            rw [HY.out]
            go_upto_region 26 with fail
            rw [HV.out]
            go_wp2_with (at_builtin; refine wpList_append_lies _ rfl _ _ _ rfl w3.heap.size 9 i0 _ 1 16 Edyg.underlying22 hi hz0 hz1 hz2 rfl (by omega) (.slice ao k cv) k xs rfl (hown.alloc _) ⟨wr.heap.size, 0, none⟩ 1 1 [.string V] rfl rfl (cell_one_new _ _ _) (by simp [Value.oneCell']) (by omega) (by unfold maxLen; omega) (by omega) (by simp; omega) (wr.heap.size + 1) (by simp) ?_; intro gg cap' w4 hown4 hgrow hat hlt4)
            go_roundw
            case rel =>
              refine ⟨k + 1, x + 1, cap', some ⟨gg, 0, none⟩, by omega, ?_, ?_, ?_, by go_num, ?_, rfl, by rw [HP.out]; exact hown4, (hb.alloc hsz _).grown hgrow (by simp; omega) (fun q hq => (hown.lt q hq).1)⟩
              · rw [bg_succ, HEN.out]; exact Nat.le_refl _
              · intro _; have := bg_le_en va n S (k + 1); rw [bg_succ, HEN.out] at this; exact this
              · intro _; rw [bg_succ, HEN.out]
              · rw [bg_succ, HEN.out]; go_num
            case measure => simp [intOf]; omega
    · obtain rfl : k = n := by omega
      obtain ⟨m, rfl⟩ : ∃ m, k = m + 1 := ⟨k - 1, by omega⟩
      have hxv : x = I.size + 1 := by
        rw [hx3 rfl, bg_succ, FL.out m rfl]
      have hgood := HG.out m (by omega)
      have hsm : (S m).size ≤ 1048576 := by have := size_le_tot S (show m < m + 1 by omega); have := HT.out; omega
      obtain ⟨gg, hao⟩ : ∃ gg, ao = some ⟨gg, 0, none⟩ := by
        obtain ⟨gg, cap', hv, _⟩ := hown.form (by omega)
        simp only [Value.slice.injEq] at hv
        exact ⟨gg, hv.1⟩
      subst hao
      have hlast := got_cells hown m (by omega)
      have hfr := hown.frozenAt m
      have hgb : w3.heap.size ≤ gg := (hown.lt gg rfl).1
      have hx' : (I.size : Int) < (x : Int) := by omega
      generalize bg va (m + 1) S (m + 1) = s0
      clear hx1 hx2 hx3 FE FL FC FN HE HG hxv hkn hk
      cases va with
      | false =>
        have HGOT : Hid (∀ j, j < m + 1 → wr.cell? ⟨gg, j, none⟩ = some (.string (S j))) := fun j hj => got_plain hown j hj
        have HNM : Hid (∀ j, j < m + 1 → wr.cell? ⟨nb, no + j, none⟩ = some (.string (S j))) := fun j hj => cell_later hb (HCN.out j hj)
        rw [piece_plain] at hlast
        obtain ⟨s, hs'⟩ : ∃ s, s = S m := ⟨_, rfl⟩
        rw [← hs'] at hlast hsm hgood
        have h0s := hgood.1
        have HB0 : Hid (¬ (s[0]'h0s) = 46) := hgood.2.1 _ (byte_at s 0 h0s)
        obtain ⟨Wc, rfl⟩ : ∃ Wc, Wc = wr := ⟨_, rfl⟩
        have hbW := hb
        clear hs' hgood hown
        by_cases h3 : 3 ≤ s.size
        · have t3 : (3 : Int) ≤ (s.size : Int) := by omega
          have t0 : (((s[0]'h0s).toNat : Int) == 46) = false := by
            rw [beq_eq_false_iff_ne]
            intro e
            apply HB0.out
            apply UInt8.toNat_inj.1
            have h2 : (46 : UInt8).toNat = 46 := rfl
            omega
          go_wp2_with fail
          go_loopw [14] (fun i wq => ∃ j : Nat, j ≤ m + 1 ∧ i = .int .i64 j ∧ Below Wc.heap.size Wc wq) (fun i _ => m + 1 - (intOf i).toNat)
          case atStart => exact ⟨0, Nat.zero_le _, rfl, Below.refl _ _⟩
          case round =>
            obtain ⟨j, hj, rfl, hbq⟩ := hrel
            by_cases hjl : j < m + 1
            · have c1 : wr.cell? ⟨gg, j, none⟩ = some (.string (S j)) := cell_later hbq (HGOT.out j hjl)
              have c2 : wr.cell? ⟨nb, no + j, none⟩ = some (.string (S j)) := cell_later hbq (HNM.out j hjl)
              obtain ⟨q, hq⟩ : ∃ q, q = S j := ⟨_, rfl⟩
              rw [← hq] at c1 c2
              have g0 : (0 : Int) ≤ (j : Int) := Int.natCast_nonneg _
              have g1 : (j : Int) < (m : Int) + 1 := by omega
              clear hq
              go_wp2_with fail
              go_quiet (fail)
              go_wp2
              go_roundw
              case rel => exact ⟨j + 1, by omega, by go_num, below_drewN hbq _⟩
              case measure => simp [intOf]; omega
            · obtain rfl : j = m + 1 := by omega
              go_wp2
              go_ret
              exact ⟨by simp, chain (chain j3 hbW) hbq⟩
        · have t3 : decide ((3 : Int) ≤ (s.size : Int)) = false := decide_eq_false (by omega)
          go_wp2_with fail
          go_loopw [14] (fun i wq => ∃ j : Nat, j ≤ m + 1 ∧ i = .int .i64 j ∧ Below Wc.heap.size Wc wq) (fun i _ => m + 1 - (intOf i).toNat)
          case atStart => exact ⟨0, Nat.zero_le _, rfl, Below.refl _ _⟩
          case round =>
            obtain ⟨j, hj, rfl, hbq⟩ := hrel
            by_cases hjl : j < m + 1
            · have c1 : wr.cell? ⟨gg, j, none⟩ = some (.string (S j)) := cell_later hbq (HGOT.out j hjl)
              have c2 : wr.cell? ⟨nb, no + j, none⟩ = some (.string (S j)) := cell_later hbq (HNM.out j hjl)
              obtain ⟨q, hq⟩ : ∃ q, q = S j := ⟨_, rfl⟩
              rw [← hq] at c1 c2
              have g0 : (0 : Int) ≤ (j : Int) := Int.natCast_nonneg _
              have g1 : (j : Int) < (m : Int) + 1 := by omega
              clear hq
              go_wp2_with fail
              go_quiet (fail)
              go_wp2
              go_roundw
              case rel => exact ⟨j + 1, by omega, by go_num, below_drewN hbq _⟩
              case measure => simp [intOf]; omega
            · obtain rfl : j = m + 1 := by omega
              go_wp2
              go_ret
              exact ⟨by simp, chain (chain j3 hbW) hbq⟩
      | true =>
        have HG0 : Hid (∀ j, j < m + 1 → (wr.setCell ⟨gg, m, none⟩ (.string (S m))).cell? ⟨gg, j, none⟩ = some (.string (S j))) := fun j hj => got_stored hown j hj
        have HB2 : Hid (Below w3.heap.size w3 (wr.setCell ⟨gg, m, none⟩ (.string (S m)))) := hb.setCell hgb _
        rw [piece_last] at hlast
        obtain ⟨s, hs'⟩ : ∃ s, s = S m := ⟨_, rfl⟩
        rw [← hs'] at hlast hsm hgood HG0 HB2
        obtain ⟨D, hD⟩ : ∃ D, (⟨#[46, 46, 46]⟩ : ByteArray) ++ s = D := ⟨_, rfl⟩
        obtain ⟨hDs, ⟨d0, e0⟩, ⟨d1, e1⟩, ⟨d2, e2⟩, hDx⟩ := dots_facts s hD
        rw [hD] at hlast
        have HDX : Hid (D.extract 3 D.size = s) := hDx
        have hD3 : (3 : Int) ≤ (D.size : Int) := by omega
        have hDb : D.size ≤ 1048579 := by omega
        have t0 : (((D[0]'d0).toNat : Int) == 46) = true := by rw [e0]; rfl
        have t1 : (((D[1]'d1).toNat : Int) == 46) = true := by rw [e1]; rfl
        have t2 : (((D[2]'d2).toNat : Int) == 46) = true := by rw [e2]; rfl
        clear hs' hgood hown hD hDx hDs e0 e1 e2
        go_wp2_with fail
        rw [HDX.out]
        have HNM0 : Hid (∀ j, j < m + 1 → (wr.setCell ⟨gg, m, none⟩ (.string s)).cell? ⟨nb, no + j, none⟩ = some (.string (S j))) := fun j hj => cell_later HB2.out (HCN.out j hj)
        obtain ⟨Wc, hWc⟩ : ∃ Wc, wr.setCell ⟨gg, m, none⟩ (.string s) = Wc := ⟨_, rfl⟩
        rw [hWc] at HG0 HB2 HNM0 ⊢
        have HGOT := HG0
        have HNM := HNM0
        have hbW := HB2.out
        clear HG0 HNM0 HB2 hWc
        go_loopw [14] (fun i wq => ∃ j : Nat, j ≤ m + 1 ∧ i = .int .i64 j ∧ Below Wc.heap.size Wc wq) (fun i _ => m + 1 - (intOf i).toNat)
        case atStart => exact ⟨0, Nat.zero_le _, rfl, Below.refl _ _⟩
        case round =>
          obtain ⟨j, hj, rfl, hbq⟩ := hrel
          by_cases hjl : j < m + 1
          · have c1 : wr.cell? ⟨gg, j, none⟩ = some (.string (S j)) := cell_later hbq (HGOT.out j hjl)
            have c2 : wr.cell? ⟨nb, no + j, none⟩ = some (.string (S j)) := cell_later hbq (HNM.out j hjl)
            obtain ⟨q, hq⟩ : ∃ q, q = S j := ⟨_, rfl⟩
            rw [← hq] at c1 c2
            have g0 : (0 : Int) ≤ (j : Int) := Int.natCast_nonneg _
            have g1 : (j : Int) < (m : Int) + 1 := by omega
            clear hq
            go_wp2_with fail
            go_quiet (fail)
            go_wp2
            go_roundw
            case rel => exact ⟨j + 1, by omega, by go_num, below_drewN hbq _⟩
            case measure => simp [intOf]; omega
          · obtain rfl : j = m + 1 := by omega
            go_wp2
            go_ret
            exact ⟨by simp, chain (chain j3 hbW) hbq⟩

end Go.Proofs.Yoedyw
