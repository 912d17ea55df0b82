/-
  THE GUARDS BY THEIR CONTRACTS: namesSize (10), intsSize (11), zzBytes at one []string (21, 26, 27).
-/
import Derived.Test.YoedywBase
namespace Go.Proofs.Yoedyw
open Go.RowKit

set_option maxHeartbeats 400000 in
theorem zz21 (b : Bool) (a : Option Addr) (n c : Nat) (S : Nat → ByteArray) (w : World) (hr : StrRow w a n S) (hn : n ≤ 9223372036854775807) :
    Calls Edyg.prog 21 #[.bool b, .slice a n c] w (Asks w (n + tot S n ≤ 1048576)) := by
  rcases hr with h0 | ⟨bk, off, rfl, hc⟩
  · subst h0
    go_enter Edyg.func21, Edyg.ntmps21
    go_wp2
    refine wp_loop_rounds 1 ?_
    rw [rounds_succ]
    go_wp2
    go_ret
    exact Asks.yes (by simp [tot])
  · by_cases hbig : (1048576 : Int) < (n : Int)
    · go_enter Edyg.func21, Edyg.ntmps21
      go_wp2
      go_ret
      exact Asks.no
    go_enter Edyg.func21, Edyg.ntmps21
    go_wp2
    go_loop [5, 6] (fun z i => ∃ k : Nat, k ≤ n ∧ i = .int .i64 k ∧ z = .int .i64 ((n + tot S k : Nat) : Int) ∧ n + tot S k ≤ 1048576) (fun _ i => n - (intOf i).toNat)
    case atStart => exact ⟨0, Nat.zero_le _, rfl, by simp [tot], by simp [tot]; omega⟩
    case round =>
      obtain ⟨k, hk, rfl, rfl, hz⟩ := hrel
      by_cases hlt : k < n
      · have hcell := hc k hlt
        obtain ⟨s, hs⟩ : ∃ s, s = S k := ⟨_, rfl⟩
        obtain ⟨z, hzz⟩ : ∃ z, z = n + tot S k := ⟨_, rfl⟩
        rw [← hs] at hcell
        rw [← hzz] at hz ⊢
        have HS : Hid (s = S k) := hs
        have HZ : Hid (z = n + tot S k) := hzz
        clear hs hzz hc
        by_cases h1 : (1048576 : Int) < (s.size : Int)
        · go_wp2
          go_ret
          exact Asks.no
        · by_cases h2 : (1048576 : Int) < (z : Int) + (s.size : Int)
          · go_wp2
            go_ret
            exact Asks.no
          · go_wp2
            go_round
            case rel =>
              have e1 := HS.out
              have e2 := HZ.out
              refine ⟨k + 1, by omega, by go_num, ?_, ?_⟩
              · rw [tot_succ, ← e1, ← Nat.add_assoc, ← e2]; go_num
              · rw [tot_succ, ← e1, ← Nat.add_assoc, ← e2]; omega
            case measure => simp [intOf]; omega
      · have hkn : k = n := by omega
        subst hkn
        go_wp2
        go_ret
        first | exact Asks.yes hz | exact Asks.yes trivial

set_option maxHeartbeats 400000 in
theorem zz26 (b : Bool) (a : Option Addr) (n c : Nat) (S : Nat → ByteArray) (w : World) (hr : StrRow w a n S) (hn : n ≤ 9223372036854775807) :
    Calls Edyg.prog 26 #[.bool b, .slice a n c] w (Asks w (n + tot S n ≤ 1048576)) := by
  rcases hr with h0 | ⟨bk, off, rfl, hc⟩
  · subst h0
    go_enter Edyg.func26, Edyg.ntmps26
    go_wp2
    refine wp_loop_rounds 1 ?_
    rw [rounds_succ]
    go_wp2
    go_ret
    exact Asks.yes (by simp [tot])
  · by_cases hbig : (1048576 : Int) < (n : Int)
    · go_enter Edyg.func26, Edyg.ntmps26
      go_wp2
      go_ret
      exact Asks.no
    go_enter Edyg.func26, Edyg.ntmps26
    go_wp2
    go_loop [5, 6] (fun z i => ∃ k : Nat, k ≤ n ∧ i = .int .i64 k ∧ z = .int .i64 ((n + tot S k : Nat) : Int) ∧ n + tot S k ≤ 1048576) (fun _ i => n - (intOf i).toNat)
    case atStart => exact ⟨0, Nat.zero_le _, rfl, by simp [tot], by simp [tot]; omega⟩
    case round =>
      obtain ⟨k, hk, rfl, rfl, hz⟩ := hrel
      by_cases hlt : k < n
      · have hcell := hc k hlt
        obtain ⟨s, hs⟩ : ∃ s, s = S k := ⟨_, rfl⟩
        obtain ⟨z, hzz⟩ : ∃ z, z = n + tot S k := ⟨_, rfl⟩
        rw [← hs] at hcell
        rw [← hzz] at hz ⊢
        have HS : Hid (s = S k) := hs
        have HZ : Hid (z = n + tot S k) := hzz
        clear hs hzz hc
        by_cases h1 : (1048576 : Int) < (s.size : Int)
        · go_wp2
          go_ret
          exact Asks.no
        · by_cases h2 : (1048576 : Int) < (z : Int) + (s.size : Int)
          · go_wp2
            go_ret
            exact Asks.no
          · go_wp2
            go_round
            case rel =>
              have e1 := HS.out
              have e2 := HZ.out
              refine ⟨k + 1, by omega, by go_num, ?_, ?_⟩
              · rw [tot_succ, ← e1, ← Nat.add_assoc, ← e2]; go_num
              · rw [tot_succ, ← e1, ← Nat.add_assoc, ← e2]; omega
            case measure => simp [intOf]; omega
      · have hkn : k = n := by omega
        subst hkn
        go_wp2
        go_ret
        first | exact Asks.yes hz | exact Asks.yes trivial

set_option maxHeartbeats 400000 in
theorem zz27 (b : Bool) (a : Option Addr) (n c : Nat) (S : Nat → ByteArray) (w : World) (hr : StrRow w a n S) (hn : n ≤ 9223372036854775807) :
    Calls Edyg.prog 27 #[.bool b, .slice a n c] w (Asks w (n + tot S n ≤ 1048576)) := by
  rcases hr with h0 | ⟨bk, off, rfl, hc⟩
  · subst h0
    go_enter Edyg.func27, Edyg.ntmps27
    go_wp2
    refine wp_loop_rounds 1 ?_
    rw [rounds_succ]
    go_wp2
    go_ret
    exact Asks.yes (by simp [tot])
  · by_cases hbig : (1048576 : Int) < (n : Int)
    · go_enter Edyg.func27, Edyg.ntmps27
      go_wp2
      go_ret
      exact Asks.no
    go_enter Edyg.func27, Edyg.ntmps27
    go_wp2
    go_loop [5, 6] (fun z i => ∃ k : Nat, k ≤ n ∧ i = .int .i64 k ∧ z = .int .i64 ((n + tot S k : Nat) : Int) ∧ n + tot S k ≤ 1048576) (fun _ i => n - (intOf i).toNat)
    case atStart => exact ⟨0, Nat.zero_le _, rfl, by simp [tot], by simp [tot]; omega⟩
    case round =>
      obtain ⟨k, hk, rfl, rfl, hz⟩ := hrel
      by_cases hlt : k < n
      · have hcell := hc k hlt
        obtain ⟨s, hs⟩ : ∃ s, s = S k := ⟨_, rfl⟩
        obtain ⟨z, hzz⟩ : ∃ z, z = n + tot S k := ⟨_, rfl⟩
        rw [← hs] at hcell
        rw [← hzz] at hz ⊢
        have HS : Hid (s = S k) := hs
        have HZ : Hid (z = n + tot S k) := hzz
        clear hs hzz hc
        by_cases h1 : (1048576 : Int) < (s.size : Int)
        · go_wp2
          go_ret
          exact Asks.no
        · by_cases h2 : (1048576 : Int) < (z : Int) + (s.size : Int)
          · go_wp2
            go_ret
            exact Asks.no
          · go_wp2
            go_round
            case rel =>
              have e1 := HS.out
              have e2 := HZ.out
              refine ⟨k + 1, by omega, by go_num, ?_, ?_⟩
              · rw [tot_succ, ← e1, ← Nat.add_assoc, ← e2]; go_num
              · rw [tot_succ, ← e1, ← Nat.add_assoc, ← e2]; omega
            case measure => simp [intOf]; omega
      · have hkn : k = n := by omega
        subst hkn
        go_wp2
        go_ret
        first | exact Asks.yes hz | exact Asks.yes trivial

end Go.Proofs.Yoedyw
