/-
  FROM A READING TO THE WALK's WORDS: a []string, a []int among the arguments.
-/
import Derived.Test.YoedywRows
import Derived.Test.YoedywBase
import Derived.WalkKit
import Derived.ProofKit
import Derived.OpenShut
import Derived.ShutString
import Derived.ChangeOld
import Derived.Below
import Derived.SliceStrings
namespace Go.Proofs.Yoedyw
open Go.ChangeShapes Go.WideShapes Go.ChangeAt Go.RowKit

theorem own : ownKnob Edyg.prog.godebug = none := by kernel_rfl
theorem laidOut : laidOutB Edyg.prog = true := by kernel_rfl
theorem cells9 : Edyg.prog.cellsOf 9 = 1 := by kernel_rfl
theorem cells3 : Edyg.prog.cellsOf 3 = 1 := by kernel_rfl

theorem strRow_of {W : World} {a : Addr} {len : Nat} {ss : List ByteArray} (hl : len ≤ ss.length) (hcell : ∀ i, i < ss.length → W.cell? (a.add i) = some (.string (ss.getD i ByteArray.empty))) :
    StrRow W (some a) len (fun i => ss.getD i ByteArray.empty) := by
  by_cases h0 : len = 0
  · exact .inl h0
  · obtain ⟨b, off, spot⟩ := a
    have hspot : spot = none := by simpa [Addr.add] using World.cell?_spot (hcell 0 (by omega))
    subst hspot
    exact .inr ⟨b, off, rfl, fun j hj => by rw [← add_plain]; exact hcell j (by omega)⟩
theorem intRow_of {W : World} {a : Addr} {len : Nat} {zs : List Int} (hl : len ≤ zs.length) (hcell : ∀ i, i < zs.length → W.cell? (a.add i) = some (.int .i64 (zs.getD i 0))) :
    IntRow W (some a) len (fun i => zs.getD i 0) := by
  by_cases h0 : len = 0
  · exact .inl h0
  · obtain ⟨b, off, spot⟩ := a
    have hspot : spot = none := by simpa [Addr.add] using World.cell?_spot (hcell 0 (by omega))
    subst hspot
    exact .inr ⟨b, off, rfl, fun j hj => by rw [← add_plain]; exact hcell j (by omega)⟩

theorem open_strRow {H : Type} {enc : TypeId × Value → H} {W : World} {a : Option Addr} {len cap : Nat} {d : DataW H} {p : List MemPlace} (h : DataW.Trod enc Edyg.prog W 0 (fun _ => true) true 22 (.slice a len cap) d p) :
    ∃ S, StrRow W a len S ∧ len ≤ 9223372036854775807 := by
  obtain ⟨fuel, hf⟩ := h
  rcases open_strings Edyg.underlying22 Edyg.underlying9 cells9 hf with ⟨hcs, _⟩ | ⟨x, l, c, ss, hcs, _, hl, hm, hz, _, hcell, _⟩
  · simp [Value.cells] at hcs
    obtain ⟨rfl, rfl, rfl⟩ := hcs
    exact ⟨fun _ => ByteArray.empty, .inl rfl, by omega⟩
  · simp [Value.cells] at hcs
    obtain ⟨rfl, rfl, rfl⟩ := hcs
    simp only [if_true] at hz
    unfold maxLen at hm
    exact ⟨_, strRow_of (by omega) hcell, by omega⟩
theorem open_intRow {H : Type} {enc : TypeId × Value → H} {W : World} {a : Option Addr} {len cap : Nat} {d : DataW H} {p : List MemPlace} (h : DataW.Trod enc Edyg.prog W 0 (fun _ => true) true 23 (.slice a len cap) d p) :
    ∃ Z, IntRow W a len Z ∧ len ≤ 9223372036854775807 := by
  obtain ⟨fuel, hf⟩ := h
  rcases open_ints Edyg.underlying23 Edyg.underlying3 cells3 hf with ⟨hcs, _⟩ | ⟨x, l, c, zs, hcs, _, hl, hm, hz, _, hcell, _⟩
  · simp [Value.cells] at hcs
    obtain ⟨rfl, rfl, rfl⟩ := hcs
    exact ⟨fun _ => 0, .inl rfl, by omega⟩
  · simp [Value.cells] at hcs
    obtain ⟨rfl, rfl, rfl⟩ := hcs
    simp only [if_true] at hz
    unfold maxLen at hm
    exact ⟨_, intRow_of (by omega) hcell, by omega⟩

end Go.Proofs.Yoedyw
