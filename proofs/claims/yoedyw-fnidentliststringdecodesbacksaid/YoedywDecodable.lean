/-
  decodableNames (22) BY ITS CONTRACT.
-/
import Derived.Test.YoedywBase
namespace Go.Proofs.Yoedyw
open Go.RowKit

/-- None of the first m bytes is a comma. -/
def Clean (l : List UInt8) (m : Nat) : Prop := ∀ (q : Nat) (b : UInt8), q < m → l[q]? = some b → ¬ b = 44
theorem Clean.zero {l : List UInt8} : Clean l 0 := fun q b h => by omega
theorem Clean.succ {l : List UInt8} {m : Nat} {c : UInt8} (h : Clean l m) (hc : l[m]? = some c) (hn : ¬ c = 44) : Clean l (m + 1) := by
  intro q b hq hb
  by_cases e : q = m
  · subst e; rw [hc] at hb; cases hb; exact hn
  · exact h q b (by omega) hb
/-- A name that decodes: not empty, no dot at its head, no comma. -/
def Good (s : ByteArray) : Prop := 0 < s.size ∧ (∀ b, s.data.toList[0]? = some b → ¬ b = 46) ∧ Clean s.data.toList s.size
def Goods (S : Nat → ByteArray) (k : Nat) : Prop := ∀ j, j < k → Good (S j)
theorem Goods.zero {S : Nat → ByteArray} : Goods S 0 := fun j h => by omega
theorem Goods.succ {S : Nat → ByteArray} {k : Nat} (h : Goods S k) (hk : Good (S k)) : Goods S (k + 1) := fun j hj => by
  by_cases e : j = k
  · subst e; exact hk
  · exact h j (by omega)

theorem byte_at (s : ByteArray) (m : Nat) (h : m < s.size) : s.data.toList[m]? = some (s[m]'h) := by
  rw [Array.getElem?_toList]
  exact Array.getElem?_eq_getElem h

set_option maxHeartbeats 1000000 in
theorem decodable_full (b o n c : Nat) (S : Nat → ByteArray) (w : World) (hc : ∀ j, j < n → w.cell? ⟨b, o + j, none⟩ = some (.string (S j))) (hn : n ≤ 1048576) (hS : tot S n ≤ 1048576) :
    Calls Edyg.prog 22 #[.slice (some ⟨b, o, none⟩) n c] w (Asks w (Goods S n)) := by
  have HT : Hid (tot S n ≤ 1048576) := hS
  clear hS
  go_enter Edyg.func22, Edyg.ntmps22
  go_wp2
  go_loop [3] (fun i => ∃ k : Nat, k ≤ n ∧ i = .int .i64 k ∧ Goods S k) (fun i => n - (intOf i).toNat)
  case atStart => exact ⟨0, Nat.zero_le _, rfl, Goods.zero⟩
  case round =>
    obtain ⟨k, hk, rfl, hg⟩ := hrel
    by_cases hlt : k < n
    · have hcell := hc k hlt
      have hs1 : (S k).size ≤ 1048576 := by have := size_le_tot S hlt; have := HT.out; omega
      obtain ⟨s, hs⟩ : ∃ s, s = S k := ⟨_, rfl⟩
      rw [← hs] at hcell hs1
      have HS : Hid (s = S k) := hs
      have HG : Hid (Goods S k) := hg
      clear hs hg hc
      by_cases h0 : s.size = 0
      · have h0' : ((s.size : Int) == 0) = true := by simp [h0]
        clear h0
        go_wp2
        go_ret
        exact Asks.no
      · have h0' : ((s.size : Int) == 0) = false := by simpa using h0
        have h0n : 0 < s.size := by omega
        go_wp2
        · go_ret
          exact Asks.no
        · have hd : (((s[0]'h0n).toNat : Int) == 46) = false := by assumption
          have H0 : Hid (∀ b, s.data.toList[0]? = some b → ¬ b = 46) := by
            intro b hb
            rw [byte_at s 0 h0n] at hb
            cases hb
            intro e
            rw [e] at hd
            simp at hd
          go_loop [5] (fun j => ∃ m : Nat, m ≤ s.size ∧ j = .int .i64 m ∧ Clean s.data.toList m) (fun j => s.size - (intOf j).toNat)
          case atStart => exact ⟨0, Nat.zero_le _, rfl, Clean.zero⟩
          case round =>
            obtain ⟨m, hm, rfl, hcl⟩ := hrel
            have HC : Hid (Clean s.data.toList m) := hcl
            clear hcl
            by_cases hmt : m < s.size
            · go_wp2
              · go_ret
                exact Asks.no
              · go_round
                case rel =>
                  have hq : (((s[m]'hmt).toNat : Int) == 44) = false := by assumption
                  refine ⟨m + 1, by omega, by go_num, HC.out.succ (byte_at s m hmt) ?_⟩
                  intro e
                  rw [e] at hq
                  simp at hq
                case measure => simp [intOf]; omega
            · obtain rfl : m = s.size := by omega
              go_wp2
              go_round
              case rel => exact ⟨k + 1, by omega, by go_num, HG.out.succ (by rw [← HS.out]; exact ⟨h0n, H0.out, HC.out⟩)⟩
              case measure => simp [intOf]; omega
    · obtain rfl : k = n := by omega
      have HG : Hid (Goods S k) := hg
      clear hg
      go_wp2
      go_ret
      exact Asks.yes HG.out

set_option maxHeartbeats 400000 in
theorem decodable_empty (a : Option Addr) (c : Nat) (S : Nat → ByteArray) (w : World) :
    Calls Edyg.prog 22 #[.slice a 0 c] w (Asks w (Goods S 0)) := by
  go_enter Edyg.func22, Edyg.ntmps22
  go_wp2
  refine wp_loop_rounds 1 ?_
  rw [rounds_succ]
  go_wp2
  go_ret
  exact Asks.yes Goods.zero

theorem decodable_any (a : Option Addr) (n c : Nat) (S : Nat → ByteArray) (w : World) (hr : StrRow w a n S) (hn : n ≤ 1048576) (hS : tot S n ≤ 1048576) :
    Calls Edyg.prog 22 #[.slice a n c] w (Asks w (Goods S n)) := by
  rcases hr with rfl | ⟨b, o, rfl, hc⟩
  · exact decodable_empty a c S w
  · exact decodable_full b o n c S w hc hn hS

end Go.Proofs.Yoedyw
