/-
  strings.Join (32) OFF THE SHELF: laid at this dump in plain words (the shelf's lay-shelf.mjs and lay-plain.mjs wrote it for this program; cut to the one function).
-/
import Derived.Shelf.Strings.OnBuilder
import Derived.Test.YoedywProg
namespace Go.Proofs
open Go.Shelf
def Edyg.lays156_ren : Go.Shelf.Ren := ⟨fun | 156 => 32 | 165 => 33 | 166 => 34 | 169 => 35 | 240 => 36 | 241 => 37 | 276 => 38 | 277 => 39 | n => n, fun | 31 => 22 | 9 => 9 | 3 => 3 | 4 => 4 | 0 => 0 | 20 => 20 | 72 => 53 | 76 => 57 | 70 => 50 | 37 => 51 | 75 => 56 | 127 => 59 | 164 => 60 | 5 => 5 | 80 => 40 | n => n, fun | n => n⟩
theorem Edyg.lays156 : Go.Proofs.Lays.n156 Edyg.prog Edyg.lays156_ren := {
  mixed := by kernel_rfl
  f156 := Edyg.func32.trans (congrArg some (by kernel_rfl))
  f165 := Edyg.func33.trans (congrArg some (by kernel_rfl))
  f166 := Edyg.func34.trans (congrArg some (by kernel_rfl))
  f169 := Edyg.func35.trans (congrArg some (by kernel_rfl))
  f240 := Edyg.func36.trans (congrArg some (by kernel_rfl))
  f241 := Edyg.func37.trans (congrArg some (by kernel_rfl))
  f276 := Edyg.func38.trans (congrArg some (by kernel_rfl))
  f277 := Edyg.func39.trans (congrArg some (by kernel_rfl))
  t0 := Edyg.underlying0
  a0 := Edyg.isAgg0
  z0 := Edyg.sizeOf0
  v0 := Edyg.zeroValue0
  t3 := Edyg.underlying3
  a3 := Edyg.isAgg3
  z3 := Edyg.sizeOf3
  v3 := Edyg.zeroValue3
  t4 := Edyg.underlying4
  a4 := Edyg.isAgg4
  z4 := Edyg.sizeOf4
  v4 := Edyg.zeroValue4
  t9 := Edyg.underlying9
  a9 := Edyg.isAgg9
  z9 := Edyg.sizeOf9
  v9 := Edyg.zeroValue9
  t20 := Edyg.underlying20
  a20 := Edyg.isAgg20
  z20 := Edyg.sizeOf20
  v20 := Edyg.zeroValue20
  t31 := Edyg.underlying22
  a31 := Edyg.isAgg22
  z31 := Edyg.sizeOf22
  v31 := Edyg.zeroValue22
  t37 := Edyg.underlying51
  a37 := Edyg.isAgg51
  z37 := Edyg.sizeOf51
  v37 := Edyg.zeroValue51
  t70 := Edyg.underlying50
  a70 := Edyg.isAgg50
  z70 := Edyg.sizeOf50
  v70 := Edyg.zeroValue50
  t72 := Edyg.underlying53
  a72 := Edyg.isAgg53
  z72 := Edyg.sizeOf53
  v72 := Edyg.zeroValue53
  t75 := Edyg.underlying56
  a75 := Edyg.isAgg56
  z75 := Edyg.sizeOf56
  v75 := Edyg.zeroValue56
  t76 := Edyg.underlying57
  a76 := Edyg.isAgg57
  z76 := Edyg.sizeOf57
  v76 := Edyg.zeroValue57
  t127 := Edyg.underlying59
  a127 := Edyg.isAgg59
  z127 := Edyg.sizeOf59
  v127 := Edyg.zeroValue59
  t164 := Edyg.underlying60
  a164 := Edyg.isAgg60
  z164 := Edyg.sizeOf60
  v164 := Edyg.zeroValue60 }
theorem Edyg.Builder_Extra_156 : Builder.Extra Edyg.prog Edyg.lays156_ren := {
  sizeBuilder := by kernel_rfl
  liesBuilder := by kernel_rfl
  t5 := Edyg.underlying5
  a5 := Edyg.isAgg5
  z5 := Edyg.sizeOf5
  v5 := Edyg.zeroValue5
  infoByte := by kernel_rfl
  cellsByte := by kernel_rfl
  sizeByte := by kernel_rfl
  neB5 := by decide }
open Go.RowKit in
/-- strings.Join of no element: the empty string; the world is as it was. -/
theorem Edyg.strings_Join_none (a : Option Addr) (c : Nat) (sep : ByteArray) (w : World) :
    Calls Edyg.prog 32 #[.slice a 0 c, .string sep] w fun e w' => e = .returned (.string ⟨#[]⟩) ∧ w' = w := Any.strings_Join_none Edyg.lays156 Edyg.Builder_Extra_156 a c sep w
open Go.RowKit in
/-- strings.Join: the elements, the separator between them; below the end of the heap the world is as it was. -/
theorem Edyg.strings_Join (bk o c : Nat) (xs : List ByteArray) (sep : ByteArray) (w : World) (hcells : ∀ (j : Nat) x, xs[j]? = some x → w.cell? ⟨bk, o + j, none⟩ = some (.string x)) (hbk : bk < w.heap.size) (hN : xs.length ≤ 140737488355328) (hcap : xs.length ≤ c) (hlen : (Lib.join (xs.map (·.data.toList)) sep.data.toList).length ≤ 140737488355328) :
    Calls Edyg.prog 32 #[.slice (some ⟨bk, o, none⟩) xs.length c, .string sep] w fun e w' => e = .returned (.string ⟨(Lib.join (xs.map (·.data.toList)) sep.data.toList).toArray⟩) ∧ Below w.heap.size w w' := Any.strings_Join Edyg.lays156 Edyg.Builder_Extra_156 bk o c xs sep w hcells hbk hN hcap hlen
end Go.Proofs
