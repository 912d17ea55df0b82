/-
  buildNamesOnly (23) BY ITS CONTRACT.
-/
import Derived.Test.YoedywBuild
namespace Go.Proofs.Yoedyw
open Go.RowKit

set_option maxHeartbeats 1600000 in
theorem names_full (va : Bool) (b1 o1 n c1 : Nat) (S : Nat → ByteArray) (w : World)
    (hc1 : ∀ j, j < n → w.cell? ⟨b1, o1 + j, none⟩ = some (.string (S j))) (hn : n ≤ 1048576) :
    Calls Edyg.prog 23 #[.bool va, .slice (some ⟨b1, o1, none⟩) n c1] w (Makes w 0 0 va n S (fun _ => 0)) := by
  obtain ⟨i0, hi, hz0, hz1, hz2⟩ := info_parts Edyg.info43
  go_enter Edyg.func23, Edyg.ntmps23
  go_wp2
  go_loopw [5, 6] (fun v i wr => ∃ (k cv : Nat) (ao : Option Addr), k ≤ n ∧ i = .int .i64 k ∧ v = .slice ao k cv ∧ Built w.heap.size w wr (.slice ao k cv) k S (fun _ => 0)) (fun _ i _ => n - (intOf i).toNat)
  case atStart => exact ⟨0, 0, none, Nat.zero_le _, rfl, rfl, Built.start w S _⟩
  case round =>
    obtain ⟨k, cv, ao, hk, rfl, rfl, hbu⟩ := hrel
    have hb := hbu.below
    have hsz := hb.size
    by_cases hlt : k < n
    · obtain ⟨xs, hown⟩ := hbu.row
      have hcell1 : wr.cell? ⟨b1, o1 + k, none⟩ = some (.string (S k)) := cell_later hb (hc1 k hlt)
      have HB : Hid (Built w.heap.size w wr (.slice ao k cv) k S (fun _ => 0)) := hbu
      clear hc1 hbu
      go_wp2_with (at_builtin; refine wpList_append_lies _ rfl _ _ _ rfl w.heap.size 43 i0 _ 1 8 Edyg.underlying42 hi hz0 hz1 hz2 rfl (by omega) (.slice ao k cv) k xs rfl ((hown.alloc _).alloc _) ⟨wr.heap.size + 1, 0, none⟩ 1 1 [ptr wr.heap.size] rfl rfl (World.news_of_block (cs := #[ptr wr.heap.size]) (t := 43) (fr := (0, 0)) (two_new wr _ _)) (by simp [ptr, Value.oneCell']) (by omega) (by unfold maxLen; omega) (by omega) (by simp; omega) (wr.heap.size + 2) (by simp) ?_; intro gg cap w1 hown1 hgrow hat hlt1)
      go_roundw
      case rel => exact ⟨k + 1, cap, some ⟨gg, 0, none⟩, by omega, by go_num, rfl, Built.step (Z := fun _ => 0) hsz HB.out hown _ hown1 hgrow⟩
      case measure => simp [intOf]; omega
    · have hkn : k = n := by omega
      subst hkn
      have HB : Hid (Built w.heap.size w wr (.slice ao k cv) k S (fun _ => 0)) := hbu
      clear hbu
      go_wp2
      go_ret
      have := Built.done hsz HB.out 0 0 va
      exact ⟨_, rfl, this.1, this.2⟩

set_option maxHeartbeats 400000 in
theorem names_empty (va : Bool) (a : Option Addr) (c : Nat) (S : Nat → ByteArray) (w : World) :
    Calls Edyg.prog 23 #[.bool va, .slice a 0 c] w (Makes w 0 0 va 0 S (fun _ => 0)) := by
  go_enter Edyg.func23, Edyg.ntmps23
  go_wp2
  refine wp_loop_rounds 1 ?_
  rw [rounds_succ]
  go_wp2
  go_ret
  have := Built.done (Nat.le_refl _) (Built.start w S (fun _ => 0)) 0 0 va
  exact ⟨_, rfl, this.1, this.2⟩

/-- buildNamesOnly: a new IdentList of the names, every position 0; nothing that was there has turned. -/
theorem names_any (va : Bool) (a : Option Addr) (n c : Nat) (S : Nat → ByteArray) (w : World) (h1 : StrRow w a n S) (hn : n ≤ 1048576) :
    Calls Edyg.prog 23 #[.bool va, .slice a n c] w (Makes w 0 0 va n S (fun _ => 0)) := by
  rcases h1 with rfl | ⟨b1, o1, rfl, hc1⟩
  · exact names_empty va a c S w
  · exact names_full va b1 o1 n c S w hc1 hn

end Go.Proofs.Yoedyw
