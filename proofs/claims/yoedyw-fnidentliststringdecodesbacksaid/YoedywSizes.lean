/-
  THE SIZES BY THEIR CONTRACTS: namesSize (10), intsSize (11).
-/
import Derived.Test.YoedywBase
namespace Go.Proofs.Yoedyw
open Go.RowKit

/-- namesSize and intsSize answer a number t; at or under the limit it is the size. -/
def Counts (w : World) (x : Nat) (e : Ending) (w' : World) : Prop := ∃ t : Int, e = .returned (.int .i64 t) ∧ w = w' ∧ 0 ≤ t ∧ t ≤ 1048577 ∧ (t ≤ 1048576 → t = (x : Int))
theorem Counts.big {w : World} {x : Nat} : Counts w x (.returned (.int .i64 1048577)) w := ⟨1048577, rfl, rfl, by omega, by omega, fun h => by omega⟩
theorem Counts.is {w : World} {x : Nat} {t : Int} (h : t = (x : Int)) (hx : x ≤ 1048577) : Counts w x (.returned (.int .i64 t)) w := ⟨t, rfl, rfl, by omega, by omega, fun _ => h⟩

set_option maxHeartbeats 400000 in
theorem intsSize_any (a : Option Addr) (n c : Nat) (w : World) :
    Calls Edyg.prog 11 #[.slice a n c] w (Counts w (8 * n)) := by
  by_cases h1 : (65536 : Int) < (n : Int)
  · go_enter Edyg.func11, Edyg.ntmps11
    go_wp2
    go_ret
    exact Counts.big
  · go_enter Edyg.func11, Edyg.ntmps11
    go_wp2
    go_ret
    exact Counts.is (by simp) (by omega)

set_option maxHeartbeats 400000 in
theorem namesSize_any (a : Option Addr) (n c : Nat) (S : Nat → ByteArray) (w : World) (hr : StrRow w a n S) (hS : tot S n ≤ 1048576) :
    Calls Edyg.prog 10 #[.slice a n c] w (Counts w (16 * n + tot S n)) := by
  rcases hr with h0 | ⟨bk, off, rfl, hc⟩
  · subst h0
    go_enter Edyg.func10, Edyg.ntmps10
    go_wp2
    refine wp_loop_rounds 1 ?_
    rw [rounds_succ]
    go_wp2
    go_ret
    exact Counts.is (by simp [tot]) (by simp [tot])
  · by_cases hbig : (65536 : Int) < (n : Int)
    · go_enter Edyg.func10, Edyg.ntmps10
      go_wp2
      go_ret
      exact Counts.big
    have HT : Hid (tot S n ≤ 1048576) := hS
    clear hS
    go_enter Edyg.func10, Edyg.ntmps10
    go_wp2
    go_loop [3, 4] (fun z i => ∃ k : Nat, k ≤ n ∧ i = .int .i64 k ∧ z = .int .i64 ((16 * n + tot S k : Nat) : Int) ∧ 16 * n + tot S k ≤ 1048576) (fun _ i => n - (intOf i).toNat)
    case atStart => exact ⟨0, Nat.zero_le _, rfl, by simp [tot], by simp [tot]; omega⟩
    case round =>
      obtain ⟨k, hk, rfl, rfl, hz⟩ := hrel
      by_cases hlt : k < n
      · have hcell := hc k hlt
        have hs1 : (S k).size ≤ 1048576 := by have := size_le_tot S hlt; have := HT.out; omega
        obtain ⟨s, hs⟩ : ∃ s, s = S k := ⟨_, rfl⟩
        obtain ⟨z, hzz⟩ : ∃ z, z = 16 * n + tot S k := ⟨_, rfl⟩
        rw [← hs] at hcell hs1
        rw [← hzz] at hz ⊢
        have HS : Hid (s = S k) := hs
        have HZ : Hid (z = 16 * n + tot S k) := hzz
        clear hs hzz hc
        by_cases h2 : (1048576 : Int) < (z : Int) + (s.size : Int)
        · go_wp2
          go_ret
          exact Counts.big
        · go_wp2
          go_round
          case rel =>
            have e1 := HS.out
            have e2 := HZ.out
            refine ⟨k + 1, by omega, by go_num, ?_, ?_⟩
            · rw [tot_succ, ← e1, ← Nat.add_assoc, ← e2]; go_num
            · rw [tot_succ, ← e1, ← Nat.add_assoc, ← e2]; omega
          case measure => simp [intOf]; omega
      · have hkn : k = n := by omega
        subst hkn
        go_wp2
        go_ret
        exact Counts.is (by simp) (by omega)

end Go.Proofs.Yoedyw
