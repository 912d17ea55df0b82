/-
  zzBytes AT SEVERAL SLICES BY CONTRACT: 9 (names, poss), 19 and 20 (names, poss, names2, poss2).
-/
import Derived.Test.YoedywBase
namespace Go.Proofs.Yoedyw
open Go.RowKit

set_option maxHeartbeats 1600000 in
theorem zz20_zz (x y x2 : Int) (b b2 : Bool) (a : Option Addr) (c : Nat) (S : Nat → ByteArray) (a1 : Option Addr) (n1 c1 : Nat) (a2 : Option Addr) (c2 : Nat) (S2 : Nat → ByteArray) (a3 : Option Addr) (n3 c3 : Nat) (w : World)
    (hn1 : n1 ≤ 9223372036854775807) (hn3 : n3 ≤ 9223372036854775807) :
    Calls Edyg.prog 20 #[.int .i64 x, .int .i64 y, .int .i64 x2, .bool b, .bool b2, .slice a 0 c, .slice a1 n1 c1, .slice a2 0 c2, .slice a3 n3 c3] w (Asks w (0 + tot S 0 ≤ 1048576 ∧ 0 + tot S2 0 ≤ 1048576)) := by
  go_enter Edyg.func20, Edyg.ntmps20
  go_wp2
  refine wp_loop_rounds 1 ?_
  rw [rounds_succ]
  by_cases hp1 : (1048576 : Int) < (n1 : Int)
  · go_wp2
    go_ret
    exact Asks.no
  go_wp2
  refine wp_loop_rounds 1 ?_
  rw [rounds_succ]
  go_wp2
  any_goals (go_ret; exact Asks.no)
  go_ret
  exact Asks.yes ⟨by simp [tot], by simp [tot]⟩

set_option maxHeartbeats 1600000 in
theorem zz20_zr (x y x2 : Int) (b b2 : Bool) (a : Option Addr) (c : Nat) (S : Nat → ByteArray) (a1 : Option Addr) (n1 c1 : Nat) (bk2 off2 n2 c2 : Nat) (S2 : Nat → ByteArray) (a3 : Option Addr) (n3 c3 : Nat) (w : World)
    (hc2 : ∀ j, j < n2 → w.cell? ⟨bk2, off2 + j, none⟩ = some (.string (S2 j))) (hn2 : n2 ≤ 9223372036854775807) (hn1 : n1 ≤ 9223372036854775807) (hn3 : n3 ≤ 9223372036854775807) :
    Calls Edyg.prog 20 #[.int .i64 x, .int .i64 y, .int .i64 x2, .bool b, .bool b2, .slice a 0 c, .slice a1 n1 c1, .slice (some ⟨bk2, off2, none⟩) n2 c2, .slice a3 n3 c3] w (Asks w (0 + tot S 0 ≤ 1048576 ∧ n2 + tot S2 n2 ≤ 1048576)) := by
  go_enter Edyg.func20, Edyg.ntmps20
  go_wp2
  refine wp_loop_rounds 1 ?_
  rw [rounds_succ]
  by_cases hp1 : (1048576 : Int) < (n1 : Int)
  · go_wp2
    go_ret
    exact Asks.no
  by_cases hp3 : (1048576 : Int) < (n2 : Int)
  · go_wp2
    go_ret
    exact Asks.no
  by_cases hp4 : (1048576 : Int) < (n1 : Int) + (n2 : Int)
  · go_wp2
    go_ret
    exact Asks.no
  go_wp2
  go_loop [19, 21] (fun zv i => ∃ k : Nat, k ≤ n2 ∧ i = .int .i64 k ∧ zv = .int .i64 (((n1 + n2) + tot S2 k : Nat) : Int) ∧ (n1 + n2) + tot S2 k ≤ 1048576) (fun _ i => n2 - (intOf i).toNat)
  case atStart => exact ⟨0, Nat.zero_le _, rfl, by simp [tot], by simp [tot]; omega⟩
  case round =>
    obtain ⟨k, hk, rfl, rfl, hz⟩ := hrel
    by_cases hlt : k < n2
    · have hcell := hc2 k hlt
      obtain ⟨s, hs⟩ : ∃ s, s = S2 k := ⟨_, rfl⟩
      obtain ⟨zz, hzz⟩ : ∃ zz, zz = (n1 + n2) + tot S2 k := ⟨_, rfl⟩
      rw [← hs] at hcell
      rw [← hzz] at hz ⊢
      have HS : Hid (s = S2 k) := hs
      have HZ : Hid (zz = (n1 + n2) + tot S2 k) := hzz
      clear hs hzz hc2
      by_cases h1 : (1048576 : Int) < (s.size : Int)
      · go_wp2
        go_ret
        exact Asks.no
      · by_cases h2 : (1048576 : Int) < (zz : Int) + (s.size : Int)
        · go_wp2
          go_ret
          exact Asks.no
        · go_wp2
          go_round
          case rel =>
            have e1 := HS.out
            have e2 := HZ.out
            refine ⟨k + 1, by omega, by go_num, ?_, ?_⟩
            · rw [tot_succ, ← e1, ← Nat.add_assoc, ← e2]; go_num
            · rw [tot_succ, ← e1, ← Nat.add_assoc, ← e2]; omega
          case measure => simp [intOf]; omega
    · have hkn : k = n2 := by omega
      subst hkn
      obtain ⟨z', hzz⟩ : ∃ z', z' = (n1 + k) + tot S2 k := ⟨_, rfl⟩
      rw [← hzz] at hz ⊢
      have HZ : Hid (z' = (n1 + k) + tot S2 k) := hzz
      clear hzz
      go_wp2
      any_goals (go_ret; exact Asks.no)
      go_ret
      exact Asks.yes ⟨by simp [tot], by have := HZ.out; omega⟩

set_option maxHeartbeats 1600000 in
theorem zz20_rz (x y x2 : Int) (b b2 : Bool) (bk off n c : Nat) (S : Nat → ByteArray) (a1 : Option Addr) (n1 c1 : Nat) (a2 : Option Addr) (c2 : Nat) (S2 : Nat → ByteArray) (a3 : Option Addr) (n3 c3 : Nat) (w : World)
    (hc : ∀ j, j < n → w.cell? ⟨bk, off + j, none⟩ = some (.string (S j))) (hn : n ≤ 9223372036854775807) (hn1 : n1 ≤ 9223372036854775807) (hn3 : n3 ≤ 9223372036854775807) :
    Calls Edyg.prog 20 #[.int .i64 x, .int .i64 y, .int .i64 x2, .bool b, .bool b2, .slice (some ⟨bk, off, none⟩) n c, .slice a1 n1 c1, .slice a2 0 c2, .slice a3 n3 c3] w (Asks w (n + tot S n ≤ 1048576 ∧ 0 + tot S2 0 ≤ 1048576)) := by
  by_cases hbig : (1048576 : Int) < (n : Int)
  · go_enter Edyg.func20, Edyg.ntmps20
    go_wp2
    go_ret
    exact Asks.no
  go_enter Edyg.func20, Edyg.ntmps20
  go_wp2
  go_loop [19, 20] (fun zv i => ∃ k : Nat, k ≤ n ∧ i = .int .i64 k ∧ zv = .int .i64 ((n + tot S k : Nat) : Int) ∧ n + tot S k ≤ 1048576) (fun _ i => n - (intOf i).toNat)
  case atStart => exact ⟨0, Nat.zero_le _, rfl, by simp [tot], by simp [tot]; omega⟩
  case round =>
    obtain ⟨k, hk, rfl, rfl, hz⟩ := hrel
    by_cases hlt : k < n
    · have hcell := hc k hlt
      obtain ⟨s, hs⟩ : ∃ s, s = S k := ⟨_, rfl⟩
      obtain ⟨z, hzz⟩ : ∃ z, z = n + tot S k := ⟨_, rfl⟩
      rw [← hs] at hcell
      rw [← hzz] at hz ⊢
      have HS : Hid (s = S k) := hs
      have HZ : Hid (z = n + tot S k) := hzz
      clear hs hzz hc
      by_cases h1 : (1048576 : Int) < (s.size : Int)
      · go_wp2
        go_ret
        exact Asks.no
      · by_cases h2 : (1048576 : Int) < (z : Int) + (s.size : Int)
        · go_wp2
          go_ret
          exact Asks.no
        · go_wp2
          go_round
          case rel =>
            have e1 := HS.out
            have e2 := HZ.out
            refine ⟨k + 1, by omega, by go_num, ?_, ?_⟩
            · rw [tot_succ, ← e1, ← Nat.add_assoc, ← e2]; go_num
            · rw [tot_succ, ← e1, ← Nat.add_assoc, ← e2]; omega
          case measure => simp [intOf]; omega
    · have hkn : k = n := by omega
      subst hkn
      obtain ⟨z, hzz⟩ : ∃ z, z = k + tot S k := ⟨_, rfl⟩
      rw [← hzz] at hz ⊢
      have HZ : Hid (z = k + tot S k) := hzz
      clear hzz
      by_cases hp1 : (1048576 : Int) < (n1 : Int)
      · go_wp2
        go_ret
        exact Asks.no
      by_cases hp2 : (1048576 : Int) < (z : Int) + (n1 : Int)
      · go_wp2
        go_ret
        exact Asks.no
      go_wp2
      refine wp_loop_rounds 1 ?_
      rw [rounds_succ]
      go_wp2
      any_goals (go_ret; exact Asks.no)
      go_ret
      exact Asks.yes ⟨by first | exact hz | (rw [← HZ.out]; exact hz), by simp [tot]⟩

set_option maxHeartbeats 1600000 in
theorem zz20_rr (x y x2 : Int) (b b2 : Bool) (bk off n c : Nat) (S : Nat → ByteArray) (a1 : Option Addr) (n1 c1 : Nat) (bk2 off2 n2 c2 : Nat) (S2 : Nat → ByteArray) (a3 : Option Addr) (n3 c3 : Nat) (w : World)
    (hc : ∀ j, j < n → w.cell? ⟨bk, off + j, none⟩ = some (.string (S j))) (hn : n ≤ 9223372036854775807) (hc2 : ∀ j, j < n2 → w.cell? ⟨bk2, off2 + j, none⟩ = some (.string (S2 j))) (hn2 : n2 ≤ 9223372036854775807) (hn1 : n1 ≤ 9223372036854775807) (hn3 : n3 ≤ 9223372036854775807) :
    Calls Edyg.prog 20 #[.int .i64 x, .int .i64 y, .int .i64 x2, .bool b, .bool b2, .slice (some ⟨bk, off, none⟩) n c, .slice a1 n1 c1, .slice (some ⟨bk2, off2, none⟩) n2 c2, .slice a3 n3 c3] w (Asks w (n + tot S n ≤ 1048576 ∧ n2 + tot S2 n2 ≤ 1048576)) := by
  by_cases hbig : (1048576 : Int) < (n : Int)
  · go_enter Edyg.func20, Edyg.ntmps20
    go_wp2
    go_ret
    exact Asks.no
  go_enter Edyg.func20, Edyg.ntmps20
  go_wp2
  go_loop [19, 20] (fun zv i => ∃ k : Nat, k ≤ n ∧ i = .int .i64 k ∧ zv = .int .i64 ((n + tot S k : Nat) : Int) ∧ n + tot S k ≤ 1048576) (fun _ i => n - (intOf i).toNat)
  case atStart => exact ⟨0, Nat.zero_le _, rfl, by simp [tot], by simp [tot]; omega⟩
  case round =>
    obtain ⟨k, hk, rfl, rfl, hz⟩ := hrel
    by_cases hlt : k < n
    · have hcell := hc k hlt
      obtain ⟨s, hs⟩ : ∃ s, s = S k := ⟨_, rfl⟩
      obtain ⟨z, hzz⟩ : ∃ z, z = n + tot S k := ⟨_, rfl⟩
      rw [← hs] at hcell
      rw [← hzz] at hz ⊢
      have HS : Hid (s = S k) := hs
      have HZ : Hid (z = n + tot S k) := hzz
      clear hs hzz hc
      by_cases h1 : (1048576 : Int) < (s.size : Int)
      · go_wp2
        go_ret
        exact Asks.no
      · by_cases h2 : (1048576 : Int) < (z : Int) + (s.size : Int)
        · go_wp2
          go_ret
          exact Asks.no
        · go_wp2
          go_round
          case rel =>
            have e1 := HS.out
            have e2 := HZ.out
            refine ⟨k + 1, by omega, by go_num, ?_, ?_⟩
            · rw [tot_succ, ← e1, ← Nat.add_assoc, ← e2]; go_num
            · rw [tot_succ, ← e1, ← Nat.add_assoc, ← e2]; omega
          case measure => simp [intOf]; omega
    · have hkn : k = n := by omega
      subst hkn
      obtain ⟨z, hzz⟩ : ∃ z, z = k + tot S k := ⟨_, rfl⟩
      rw [← hzz] at hz ⊢
      have HZ : Hid (z = k + tot S k) := hzz
      clear hzz
      have HZ0 := HZ
      have hz0 := hz
      clear HZ hz
      by_cases hp1 : (1048576 : Int) < (n1 : Int)
      · go_wp2
        go_ret
        exact Asks.no
      by_cases hp2 : (1048576 : Int) < (z : Int) + (n1 : Int)
      · go_wp2
        go_ret
        exact Asks.no
      by_cases hp3 : (1048576 : Int) < (n2 : Int)
      · go_wp2
        go_ret
        exact Asks.no
      by_cases hp4 : (1048576 : Int) < (z : Int) + (n1 : Int) + (n2 : Int)
      · go_wp2
        go_ret
        exact Asks.no
      go_wp2
      go_loop [19, 21] (fun zv i => ∃ k : Nat, k ≤ n2 ∧ i = .int .i64 k ∧ zv = .int .i64 (((z + n1 + n2) + tot S2 k : Nat) : Int) ∧ (z + n1 + n2) + tot S2 k ≤ 1048576) (fun _ i => n2 - (intOf i).toNat)
      case atStart => exact ⟨0, Nat.zero_le _, rfl, by simp [tot], by simp [tot]; omega⟩
      case round =>
        obtain ⟨k, hk, rfl, rfl, hz⟩ := hrel
        by_cases hlt : k < n2
        · have hcell := hc2 k hlt
          obtain ⟨s, hs⟩ : ∃ s, s = S2 k := ⟨_, rfl⟩
          obtain ⟨zz, hzz⟩ : ∃ zz, zz = (z + n1 + n2) + tot S2 k := ⟨_, rfl⟩
          rw [← hs] at hcell
          rw [← hzz] at hz ⊢
          have HS : Hid (s = S2 k) := hs
          have HZ : Hid (zz = (z + n1 + n2) + tot S2 k) := hzz
          clear hs hzz hc2
          by_cases h1 : (1048576 : Int) < (s.size : Int)
          · go_wp2
            go_ret
            exact Asks.no
          · by_cases h2 : (1048576 : Int) < (zz : Int) + (s.size : Int)
            · go_wp2
              go_ret
              exact Asks.no
            · go_wp2
              go_round
              case rel =>
                have e1 := HS.out
                have e2 := HZ.out
                refine ⟨k + 1, by omega, by go_num, ?_, ?_⟩
                · rw [tot_succ, ← e1, ← Nat.add_assoc, ← e2]; go_num
                · rw [tot_succ, ← e1, ← Nat.add_assoc, ← e2]; omega
              case measure => simp [intOf]; omega
        · have hkn : k = n2 := by omega
          subst hkn
          obtain ⟨z', hzz⟩ : ∃ z', z' = (z + n1 + k) + tot S2 k := ⟨_, rfl⟩
          rw [← hzz] at hz ⊢
          have HZ : Hid (z' = (z + n1 + k) + tot S2 k) := hzz
          clear hzz
          go_wp2
          any_goals (go_ret; exact Asks.no)
          go_ret
          exact Asks.yes ⟨by first | exact hz0 | (rw [← HZ0.out]; exact hz0), by have := HZ.out; omega⟩

theorem zz20 (x y x2 : Int) (b b2 : Bool) (a : Option Addr) (n c : Nat) (S : Nat → ByteArray) (a1 : Option Addr) (n1 c1 : Nat) (a2 : Option Addr) (n2 c2 : Nat) (S2 : Nat → ByteArray) (a3 : Option Addr) (n3 c3 : Nat) (w : World)
    (hr : StrRow w a n S) (hr2 : StrRow w a2 n2 S2) (hn : n ≤ 9223372036854775807) (hn1 : n1 ≤ 9223372036854775807) (hn2 : n2 ≤ 9223372036854775807) (hn3 : n3 ≤ 9223372036854775807) :
    Calls Edyg.prog 20 #[.int .i64 x, .int .i64 y, .int .i64 x2, .bool b, .bool b2, .slice a n c, .slice a1 n1 c1, .slice a2 n2 c2, .slice a3 n3 c3] w (Asks w (n + tot S n ≤ 1048576 ∧ n2 + tot S2 n2 ≤ 1048576)) := by
  rcases hr with rfl | ⟨bk, off, rfl, hc⟩
  · rcases hr2 with rfl | ⟨bk2, off2, rfl, hc2⟩
    · exact zz20_zz x y x2 b b2 a c S a1 n1 c1 a2 c2 S2 a3 n3 c3 w hn1 hn3
    · exact zz20_zr x y x2 b b2 a c S a1 n1 c1 bk2 off2 n2 c2 S2 a3 n3 c3 w hc2 hn2 hn1 hn3
  · rcases hr2 with rfl | ⟨bk2, off2, rfl, hc2⟩
    · exact zz20_rz x y x2 b b2 bk off n c S a1 n1 c1 a2 c2 S2 a3 n3 c3 w hc hn hn1 hn3
    · exact zz20_rr x y x2 b b2 bk off n c S a1 n1 c1 bk2 off2 n2 c2 S2 a3 n3 c3 w hc hn hc2 hn2 hn1 hn3

end Go.Proofs.Yoedyw
