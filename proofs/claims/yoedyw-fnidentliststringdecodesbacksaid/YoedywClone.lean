/-
  cloneStrings (13), cloneInts (14) BY THEIR CONTRACTS.
-/
import Derived.Test.YoedywBase
import Derived.Deep.OwnRows
import Derived.Lib.SliceRun
namespace Go.Proofs.Yoedyw
open Go.RowKit

/-- A copy of the row in new memory; nothing that was there has turned. -/
def StrRowCopy (w : World) (n : Nat) (S : Nat → ByteArray) (e : Ending) (w' : World) : Prop := ∃ a c, e = .returned (.slice a n c) ∧ StrRow w' a n S ∧ Below w.heap.size w w'

theorem Edyg.info9 : (Edyg.prog.info? 9).map (fun i => (i.zero, i.size, i.bytes)) = some (some (.string ByteArray.empty), 1, 16) := by kernel_rfl

set_option maxHeartbeats 400000 in
theorem cloneStrings_any (a : Option Addr) (n c : Nat) (S : Nat → ByteArray) (w : World) (hr : StrRow w a n S) (hn : n ≤ 1048576) :
    Calls Edyg.prog 13 #[.slice a n c] w (StrRowCopy w n S) := by
  have heq := fun (wx : World) (ax : Option Addr) (lx cx : Nat) => Lib.run_eql_slice_nil (P := Edyg.prog) wx 22 9 ax lx cx 0 0 Edyg.underlying22
  have hmk := run_make_row' (P := Edyg.prog) 22 9 (.string ByteArray.empty) 16 Edyg.underlying22 Edyg.info9 rfl .i64 .i64 n (by omega) (by omega)
  rcases hr with h0 | ⟨bk, off, rfl, hc⟩
  · subst h0
    match a with
    | none =>
      go_enter Edyg.func13, Edyg.ntmps13
      go_wp2
      go_ret
      exact ⟨none, 0, rfl, .inl rfl, Below.refl _ _⟩
    | some x =>
      simp only [Int.natCast_zero] at hmk
      go_enter Edyg.func13, Edyg.ntmps13
      go_wp2
      refine wp_loop_rounds 1 ?_
      rw [rounds_succ]
      go_wp2
      go_ret
      exact ⟨_, _, rfl, .inl rfl, (Below.refl _ _).alloc (Nat.le_refl _) _⟩
  · go_enter Edyg.func13, Edyg.ntmps13
    go_wp2
    go_loopw [4] (fun i wr => ∃ k : Nat, k ≤ n ∧ i = .int .i64 k ∧ wr.rowIs w.heap.size 9 n (fun j => if j < k then .string (S j) else .string ByteArray.empty) ∧ Below w.heap.size w wr) (fun i _ => n - (intOf i).toNat)
    case atStart =>
      refine ⟨0, Nat.zero_le _, rfl, ?_, (Below.refl _ _).alloc (Nat.le_refl _) _⟩
      exact (World.rowIs_made w _ n 9).congr (fun i hi => by simp)
    case round =>
      obtain ⟨k, hk, rfl, hrow, hb⟩ := hrel
      by_cases hlt : k < n
      · have hcell : wr.cell? ⟨bk, off + k, none⟩ = some (.string (S k)) := cell_later hb (hc k hlt)
        have hnew : wr.cell? ⟨w.heap.size, k, none⟩ = some (.string ByteArray.empty) := by have := hrow.cell hlt; simpa using this
        have hfr : wr.frozen? ⟨w.heap.size, k, none⟩ = false := hrow.frozen k
        obtain ⟨s, hs⟩ : ∃ s, s = S k := ⟨_, rfl⟩
        rw [← hs] at hcell
        have HS : Hid (s = S k) := hs
        have HR : Hid (wr.rowIs w.heap.size 9 n (fun j => if j < k then .string (S j) else .string ByteArray.empty)) := hrow
        clear hs hc hrow
        go_wp2
        go_roundw
        case rel =>
          have e1 := HS.out
          refine ⟨k + 1, by omega, by go_num, ?_, hb.setCell (Nat.le_refl _) _⟩
          refine (HR.out.set k (.string s)).congr (fun j hj => ?_)
          by_cases hjk : j = k
          · subst hjk; simp [e1]
          · simp only [if_neg hjk]
            by_cases hj2 : j < k
            · rw [if_pos hj2, if_pos (by omega)]
            · rw [if_neg hj2, if_neg (by omega)]
        case measure => simp [intOf]; omega
      · have hkn : k = n := by omega
        subst hkn
        have HR : Hid (wr.rowIs w.heap.size 9 k (fun j => if j < k then .string (S j) else .string ByteArray.empty)) := hrow
        clear hrow
        go_wp2
        go_ret
        refine ⟨_, _, rfl, .inr ⟨w.heap.size, 0, rfl, fun j hj => ?_⟩, hb⟩
        have := HR.out.cell hj
        simpa [hj] using this

/-- A copy of the row in new memory; nothing that was there has turned. -/
def IntRowCopy (w : World) (n : Nat) (S : Nat → Int) (e : Ending) (w' : World) : Prop := ∃ a c, e = .returned (.slice a n c) ∧ IntRow w' a n S ∧ Below w.heap.size w w'

theorem Edyg.info3 : (Edyg.prog.info? 3).map (fun i => (i.zero, i.size, i.bytes)) = some (some (.int .i64 0), 1, 8) := by kernel_rfl

set_option maxHeartbeats 400000 in
theorem cloneInts_any (a : Option Addr) (n c : Nat) (S : Nat → Int) (w : World) (hr : IntRow w a n S) (hn : n ≤ 1048576) :
    Calls Edyg.prog 14 #[.slice a n c] w (IntRowCopy w n S) := by
  have heq := fun (wx : World) (ax : Option Addr) (lx cx : Nat) => Lib.run_eql_slice_nil (P := Edyg.prog) wx 23 3 ax lx cx 0 0 Edyg.underlying23
  have hmk := run_make_row' (P := Edyg.prog) 23 3 (.int .i64 0) 8 Edyg.underlying23 Edyg.info3 rfl .i64 .i64 n (by omega) (by omega)
  rcases hr with h0 | ⟨bk, off, rfl, hc⟩
  · subst h0
    match a with
    | none =>
      go_enter Edyg.func14, Edyg.ntmps14
      go_wp2
      go_ret
      exact ⟨none, 0, rfl, .inl rfl, Below.refl _ _⟩
    | some x =>
      simp only [Int.natCast_zero] at hmk
      go_enter Edyg.func14, Edyg.ntmps14
      go_wp2
      refine wp_loop_rounds 1 ?_
      rw [rounds_succ]
      go_wp2
      go_ret
      exact ⟨_, _, rfl, .inl rfl, (Below.refl _ _).alloc (Nat.le_refl _) _⟩
  · go_enter Edyg.func14, Edyg.ntmps14
    go_wp2
    go_loopw [4] (fun i wr => ∃ k : Nat, k ≤ n ∧ i = .int .i64 k ∧ wr.rowIs w.heap.size 3 n (fun j => if j < k then .int .i64 (S j) else .int .i64 0) ∧ Below w.heap.size w wr) (fun i _ => n - (intOf i).toNat)
    case atStart =>
      refine ⟨0, Nat.zero_le _, rfl, ?_, (Below.refl _ _).alloc (Nat.le_refl _) _⟩
      exact (World.rowIs_made w _ n 3).congr (fun i hi => by simp)
    case round =>
      obtain ⟨k, hk, rfl, hrow, hb⟩ := hrel
      by_cases hlt : k < n
      · have hcell : wr.cell? ⟨bk, off + k, none⟩ = some (.int .i64 (S k)) := cell_later hb (hc k hlt)
        have hnew : wr.cell? ⟨w.heap.size, k, none⟩ = some (.int .i64 0) := by have := hrow.cell hlt; simpa using this
        have hfr : wr.frozen? ⟨w.heap.size, k, none⟩ = false := hrow.frozen k
        obtain ⟨s, hs⟩ : ∃ s, s = S k := ⟨_, rfl⟩
        rw [← hs] at hcell
        have HS : Hid (s = S k) := hs
        have HR : Hid (wr.rowIs w.heap.size 3 n (fun j => if j < k then .int .i64 (S j) else .int .i64 0)) := hrow
        clear hs hc hrow
        go_wp2
        go_roundw
        case rel =>
          have e1 := HS.out
          refine ⟨k + 1, by omega, by go_num, ?_, hb.setCell (Nat.le_refl _) _⟩
          refine (HR.out.set k (.int .i64 s)).congr (fun j hj => ?_)
          by_cases hjk : j = k
          · subst hjk; simp [e1]
          · simp only [if_neg hjk]
            by_cases hj2 : j < k
            · rw [if_pos hj2, if_pos (by omega)]
            · rw [if_neg hj2, if_neg (by omega)]
        case measure => simp [intOf]; omega
      · have hkn : k = n := by omega
        subst hkn
        have HR : Hid (wr.rowIs w.heap.size 3 k (fun j => if j < k then .int .i64 (S j) else .int .i64 0)) := hrow
        clear hrow
        go_wp2
        go_ret
        refine ⟨_, _, rfl, .inr ⟨w.heap.size, 0, rfl, fun j hj => ?_⟩, hb⟩
        have := HR.out.cell hj
        simpa [hj] using this

end Go.Proofs.Yoedyw
