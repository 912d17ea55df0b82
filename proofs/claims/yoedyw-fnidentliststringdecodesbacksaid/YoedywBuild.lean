/-
  buildIdentList (16) BY ITS CONTRACT.
-/
import Derived.Test.YoedywList
import Derived.Deep.RegionHeld3
namespace Go.Proofs.Yoedyw
open Go.RowKit

theorem Edyg.info43 : (Edyg.prog.info? 43).map (fun i => (i.zero, i.size, i.bytes)) = some (some (.pointer none), 1, 8) := by kernel_rfl

set_option maxHeartbeats 1600000 in
theorem build_full (lp rp : Int) (va : Bool) (b1 o1 n c1 b2 o2 n2 c2 : Nat) (S : Nat → ByteArray) (Z : Nat → Int) (w : World)
    (hc1 : ∀ j, j < n → w.cell? ⟨b1, o1 + j, none⟩ = some (.string (S j))) (hc2 : ∀ j, j < n → w.cell? ⟨b2, o2 + j, none⟩ = some (.int .i64 (Z j))) (hn : n ≤ 1048576) (hn2 : n ≤ n2) :
    Calls Edyg.prog 16 #[.int .i64 lp, .int .i64 rp, .bool va, .slice (some ⟨b1, o1, none⟩) n c1, .slice (some ⟨b2, o2, none⟩) n2 c2] w
      (Makes w lp rp va n S Z) := by
  obtain ⟨i0, hi, hz0, hz1, hz2⟩ := info_parts Edyg.info43
  go_enter Edyg.func16, Edyg.ntmps16
  go_wp2
  go_loopw [11, 12] (fun v i wr => ∃ (k cv : Nat) (ao : Option Addr), k ≤ n ∧ i = .int .i64 k ∧ v = .slice ao k cv ∧ Built w.heap.size w wr (.slice ao k cv) k S Z) (fun _ i _ => n - (intOf i).toNat)
  case atStart => exact ⟨0, 0, none, Nat.zero_le _, rfl, rfl, Built.start w S Z⟩
  case round =>
    obtain ⟨k, cv, ao, hk, rfl, rfl, hbu⟩ := hrel
    have hb := hbu.below
    have hsz := hb.size
    by_cases hlt : k < n
    · obtain ⟨xs, hown⟩ := hbu.row
      have l1 := World.block_lt_of_cell? w _ (hc1 k hlt)
      have l2 := World.block_lt_of_cell? w _ (hc2 k hlt)
      have hcell1 : wr.cell? ⟨b1, o1 + k, none⟩ = some (.string (S k)) := cell_later hb (hc1 k hlt)
      have hcell2 : wr.cell? ⟨b2, o2 + k, none⟩ = some (.int .i64 (Z k)) := cell_later hb (hc2 k hlt)
      have ne1 : (Value.slice ao k cv).ownBlock ≠ some b1 := fun h => by have := (hown.lt b1 h).1; simp only at l1; omega
      have ne2 : (Value.slice ao k cv).ownBlock ≠ some b2 := fun h => by have := (hown.lt b2 h).1; simp only at l2; omega
      have g0 : (0 : Int) ≤ (k : Int) := Int.natCast_nonneg _
      have g1 : (k : Int) < (n : Int) := by omega
      have g2 : (k : Int) < (n2 : Int) := by omega
      simp only at l1 l2
      have H1 : Hid (∀ j, j < n → w.cell? ⟨b1, o1 + j, none⟩ = some (.string (S j))) := hc1
      have H2 : Hid (∀ j, j < n → w.cell? ⟨b2, o2 + j, none⟩ = some (.int .i64 (Z j))) := hc2
      have HB : Hid (Built w.heap.size w wr (.slice ao k cv) k S Z) := hbu
      clear hc1 hc2 hbu
      go_wp2_with fail
      go_region_held3 (fun w' => w'.cell? ⟨b1, o1 + k, none⟩ = some (.string (S k)) ∧ w'.cell? ⟨b2, o2 + k, none⟩ = some (.int .i64 (Z k)))
        (first
          | go_keep
          | (go_split_ands
             refine ⟨?_, ?_⟩
             · (rw [hgrow.cell_far _ (by simp; omega) (Ne.symm ne1)]; go_keep)
             · (rw [hgrow.cell_far _ (by simp; omega) (Ne.symm ne2)]; go_keep)))
        ((refine step_append_lies _ (by rfl) _ _ _ (by rfl) w.heap.size 43 i0 _ 1 8 Edyg.underlying42 hi hz0 hz1 hz2 rfl (by omega) (.slice ao k cv) k xs (by rfl) (((hown.alloc _).alloc _).drew)
            ⟨wr.heap.size + 1, 0, none⟩ 1 1 [ptr wr.heap.size] (by rfl) (by rfl) (World.news_of_block (cs := #[ptr wr.heap.size]) (t := 43) (fr := (0, 0)) (two_new wr _ _)) (by simp [ptr, Value.oneCell'])
            (by omega) (by unfold maxLen; omega) (by omega) (by simp; omega) (wr.heap.size + 2) (by simp) ?_; intro gg cap w1 hown1 hgrow hat hlt1))
      go_wp2
      go_roundw
      case rel => exact ⟨k + 1, cap, some ⟨gg, 0, none⟩, by omega, by go_num, rfl, Built.step hsz HB.out hown _ hown1 ⟨hgrow.os, hgrow.tape, hgrow.output, hgrow.size, hgrow.block⟩⟩
      case measure => simp [intOf]; omega
    · have hkn : k = n := by omega
      subst hkn
      have HB : Hid (Built w.heap.size w wr (.slice ao k cv) k S Z) := hbu
      clear hbu
      go_wp2
      go_ret
      have := Built.done hsz HB.out lp rp va
      exact ⟨_, rfl, this.1, this.2⟩

set_option maxHeartbeats 400000 in
theorem build_empty (lp rp : Int) (va : Bool) (a : Option Addr) (c : Nat) (a2 : Option Addr) (n2 c2 : Nat) (S : Nat → ByteArray) (Z : Nat → Int) (w : World) :
    Calls Edyg.prog 16 #[.int .i64 lp, .int .i64 rp, .bool va, .slice a 0 c, .slice a2 n2 c2] w (Makes w lp rp va 0 S Z) := by
  go_enter Edyg.func16, Edyg.ntmps16
  go_wp2
  refine wp_loop_rounds 1 ?_
  rw [rounds_succ]
  go_wp2
  go_ret
  have := Built.done (Nat.le_refl _) (Built.start w S Z) lp rp va
  exact ⟨_, rfl, this.1, this.2⟩

/-- buildIdentList: a new IdentList of the names and positions; nothing that was there has turned. -/
theorem build_any (lp rp : Int) (va : Bool) (a : Option Addr) (n c : Nat) (a2 : Option Addr) (c2 : Nat) (S : Nat → ByteArray) (Z : Nat → Int) (w : World) (h1 : StrRow w a n S) (h2 : IntRow w a2 n Z) (hn : n ≤ 1048576) :
    Calls Edyg.prog 16 #[.int .i64 lp, .int .i64 rp, .bool va, .slice a n c, .slice a2 n c2] w (Makes w lp rp va n S Z) := by
  rcases h1 with rfl | ⟨b1, o1, rfl, hc1⟩
  · exact build_empty lp rp va a c a2 0 c2 S Z w
  · rcases h2 with rfl | ⟨b2, o2, rfl, hc2⟩
    · exact build_empty lp rp va _ c a2 0 c2 S Z w
    · exact build_full lp rp va b1 o1 n c b2 o2 n c2 S Z w hc1 hc2 hn (Nat.le_refl _)

end Go.Proofs.Yoedyw
