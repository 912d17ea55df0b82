/-
  zzBytes AT SEVERAL SLICES BY CONTRACT: 9 (names, poss), 19 and 20 (names, poss, names2, poss2).
-/
import Derived.Test.YoedywBase
namespace Go.Proofs.Yoedyw
open Go.RowKit

set_option maxHeartbeats 400000 in
theorem zz9 (x y : Int) (b : Bool) (a : Option Addr) (n c : Nat) (S : Nat → ByteArray) (a1 : Option Addr) (n1 c1 : Nat) (w : World) (hr : StrRow w a n S) (hn : n ≤ 9223372036854775807) (hn1 : n1 ≤ 9223372036854775807) :
    Calls Edyg.prog 9 #[.int .i64 x, .int .i64 y, .bool b, .slice a n c, .slice a1 n1 c1] w (Asks w (n + tot S n ≤ 1048576)) := by
  rcases hr with h0 | ⟨bk, off, rfl, hc⟩
  · subst h0
    go_enter Edyg.func9, Edyg.ntmps9
    go_wp2
    refine wp_loop_rounds 1 ?_
    rw [rounds_succ]
    go_wp2
    any_goals (go_ret; exact Asks.no)
    go_ret
    exact Asks.yes (by simp [tot])
  · by_cases hbig : (1048576 : Int) < (n : Int)
    · go_enter Edyg.func9, Edyg.ntmps9
      go_wp2
      go_ret
      exact Asks.no
    go_enter Edyg.func9, Edyg.ntmps9
    go_wp2
    go_loop [11, 12] (fun zv i => ∃ k : Nat, k ≤ n ∧ i = .int .i64 k ∧ zv = .int .i64 ((n + tot S k : Nat) : Int) ∧ n + tot S k ≤ 1048576) (fun _ i => n - (intOf i).toNat)
    case atStart => exact ⟨0, Nat.zero_le _, rfl, by simp [tot], by simp [tot]; omega⟩
    case round =>
      obtain ⟨k, hk, rfl, rfl, hz⟩ := hrel
      by_cases hlt : k < n
      · have hcell := hc k hlt
        obtain ⟨s, hs⟩ : ∃ s, s = S k := ⟨_, rfl⟩
        obtain ⟨z, hzz⟩ : ∃ z, z = n + tot S k := ⟨_, rfl⟩
        rw [← hs] at hcell
        rw [← hzz] at hz ⊢
        have HS : Hid (s = S k) := hs
        have HZ : Hid (z = n + tot S k) := hzz
        clear hs hzz hc
        by_cases h1 : (1048576 : Int) < (s.size : Int)
        · go_wp2
          go_ret
          exact Asks.no
        · by_cases h2 : (1048576 : Int) < (z : Int) + (s.size : Int)
          · go_wp2
            go_ret
            exact Asks.no
          · go_wp2
            go_round
            case rel =>
              have e1 := HS.out
              have e2 := HZ.out
              refine ⟨k + 1, by omega, by go_num, ?_, ?_⟩
              · rw [tot_succ, ← e1, ← Nat.add_assoc, ← e2]; go_num
              · rw [tot_succ, ← e1, ← Nat.add_assoc, ← e2]; omega
            case measure => simp [intOf]; omega
      · have hkn : k = n := by omega
        subst hkn
        obtain ⟨z, hzz⟩ : ∃ z, z = k + tot S k := ⟨_, rfl⟩
        rw [← hzz] at hz ⊢
        have HZ : Hid (z = k + tot S k) := hzz
        clear hzz
        go_wp2
        any_goals (go_ret; exact Asks.no)
        go_ret
        exact Asks.yes (by rw [← HZ.out]; exact hz)

end Go.Proofs.Yoedyw
