/-
  No cell of these rows narrows 'for every input' (looked for: loops, veiled, ifaces, maps, wideKeys, modest, calm, conditions, laid).
  DERIVED. THE GIVEN ROWS OF THIS SEAT. 6 by the template 'for every input the law returns true; each argument reads behind the call as it read before'; 0 by the template 'total and deterministic' (their statements: YoedywTotals.lean).
  GIVEN WITH THE SEED: the statements are not yours to turn. If you find one false, say at which input.
  Laid BY PROGRAM, IN A SANDBOX (cutbox-rows.mjs): the forced cells as the released guide's own fill.sh prints them over the translation ebb1b2c4edf5da5d… (all of the seat's roots in one cut). By AI agents, Wed Nov 11 2026. No macro, syntax, notation, axiom, sorry.
-/
import Derived.Test.YoedywChecked
import GoSem.Claim
import GoSem.ClaimJoined
import GoSem.ClaimMapViews
import Derived.JoinedTies
import Derived.KernelRfl
namespace Go.Proofs.Yoedyw
/- THE CELL 'sum', in the pinned program and in every row, IS THE sha256 OF THE DUMP (.gsa) THAT YoedywProg.lean LOADS. Nothing in Lean hashes anything: it is a label: what it is worth is what the hold of that sum in a sandbox is worth. -/
noncomputable def Edyg.pinned : Pinned := { name := "yoedyw", sum := "ebb1b2c4edf5da5d36efd4ed821a2b03d6f747d4d1c35ee956e6301704b44721", checked := Edyg.checked }
namespace Rows
def none {H : Type} : Left H := { results := [], args := [] }

/-- 'zzlaws_parser_b1.FnIdentListSpanIsHullOfPieces': WHATEVER THE INPUT: true; the input reads as it did. -/
def fnIdentListSpanIsHullOfPiecesSpec : ChangeSpec := { name := "fnIdentListSpanIsHullOfPieces", fn := fun _ => fun
  | [d1, d2, d3, d4, d5] => { results := [.lit (.bool true)], args := [d1, d2, d3, d4, d5] }
  | _ => none }
def fnIdentListSpanIsHullOfPiecesRow : OpenClaim := { program := "yoedyw", sum := "ebb1b2c4edf5da5d36efd4ed821a2b03d6f747d4d1c35ee956e6301704b44721", func := "github.com/d5/tengo/v2/zzlaws_parser_b1.FnIdentListSpanIsHullOfPieces", spec := "fnIdentListSpanIsHullOfPieces", apart := false }
def FnIdentListSpanIsHullOfPiecesSaid : Prop := fnIdentListSpanIsHullOfPiecesRow.holds Edyg.pinned (OpenSpec.ofChange fnIdentListSpanIsHullOfPiecesSpec)

/-- ITS FALSE NEIGHBOUR: 'it returns false'. Refute it at one input. -/
def fnIdentListSpanIsHullOfPiecesWrong : ChangeSpec := { name := "fnIdentListSpanIsHullOfPieces", fn := fun _ => fun
  | [d1, d2, d3, d4, d5] => { results := [.lit (.bool false)], args := [d1, d2, d3, d4, d5] }
  | _ => none }
def FnIdentListSpanIsHullOfPiecesWrongFalsely : Prop := fnIdentListSpanIsHullOfPiecesRow.holds Edyg.pinned (OpenSpec.ofChange fnIdentListSpanIsHullOfPiecesWrong)

/-- 'zzlaws_parser_b1.FnIdentListPosDependsOnlyOnStart': WHATEVER THE INPUT: true; the input reads as it did. -/
def fnIdentListPosDependsOnlyOnStartSpec : ChangeSpec := { name := "fnIdentListPosDependsOnlyOnStart", fn := fun _ => fun
  | [d1, d2, d3, d4, d5, d6, d7, d8, d9] => { results := [.lit (.bool true)], args := [d1, d2, d3, d4, d5, d6, d7, d8, d9] }
  | _ => none }
def fnIdentListPosDependsOnlyOnStartRow : OpenClaim := { program := "yoedyw", sum := "ebb1b2c4edf5da5d36efd4ed821a2b03d6f747d4d1c35ee956e6301704b44721", func := "github.com/d5/tengo/v2/zzlaws_parser_b1.FnIdentListPosDependsOnlyOnStart", spec := "fnIdentListPosDependsOnlyOnStart", apart := false }
def FnIdentListPosDependsOnlyOnStartSaid : Prop := fnIdentListPosDependsOnlyOnStartRow.holds Edyg.pinned (OpenSpec.ofChange fnIdentListPosDependsOnlyOnStartSpec)

/-- ITS FALSE NEIGHBOUR: 'it returns false'. Refute it at one input. -/
def fnIdentListPosDependsOnlyOnStartWrong : ChangeSpec := { name := "fnIdentListPosDependsOnlyOnStart", fn := fun _ => fun
  | [d1, d2, d3, d4, d5, d6, d7, d8, d9] => { results := [.lit (.bool false)], args := [d1, d2, d3, d4, d5, d6, d7, d8, d9] }
  | _ => none }
def FnIdentListPosDependsOnlyOnStartWrongFalsely : Prop := fnIdentListPosDependsOnlyOnStartRow.holds Edyg.pinned (OpenSpec.ofChange fnIdentListPosDependsOnlyOnStartWrong)

/-- 'zzlaws_parser_b1.FnIdentListEndDependsOnlyOnFinish': WHATEVER THE INPUT: true; the input reads as it did. -/
def fnIdentListEndDependsOnlyOnFinishSpec : ChangeSpec := { name := "fnIdentListEndDependsOnlyOnFinish", fn := fun _ => fun
  | [d1, d2, d3, d4, d5, d6, d7, d8, d9] => { results := [.lit (.bool true)], args := [d1, d2, d3, d4, d5, d6, d7, d8, d9] }
  | _ => none }
def fnIdentListEndDependsOnlyOnFinishRow : OpenClaim := { program := "yoedyw", sum := "ebb1b2c4edf5da5d36efd4ed821a2b03d6f747d4d1c35ee956e6301704b44721", func := "github.com/d5/tengo/v2/zzlaws_parser_b1.FnIdentListEndDependsOnlyOnFinish", spec := "fnIdentListEndDependsOnlyOnFinish", apart := false }
def FnIdentListEndDependsOnlyOnFinishSaid : Prop := fnIdentListEndDependsOnlyOnFinishRow.holds Edyg.pinned (OpenSpec.ofChange fnIdentListEndDependsOnlyOnFinishSpec)

/-- ITS FALSE NEIGHBOUR: 'it returns false'. Refute it at one input. -/
def fnIdentListEndDependsOnlyOnFinishWrong : ChangeSpec := { name := "fnIdentListEndDependsOnlyOnFinish", fn := fun _ => fun
  | [d1, d2, d3, d4, d5, d6, d7, d8, d9] => { results := [.lit (.bool false)], args := [d1, d2, d3, d4, d5, d6, d7, d8, d9] }
  | _ => none }
def FnIdentListEndDependsOnlyOnFinishWrongFalsely : Prop := fnIdentListEndDependsOnlyOnFinishRow.holds Edyg.pinned (OpenSpec.ofChange fnIdentListEndDependsOnlyOnFinishWrong)

/-- 'zzlaws_parser_b1.FnIdentListNumFieldsAgreesWithString': WHATEVER THE INPUT: true; the input reads as it did. -/
def fnIdentListNumFieldsAgreesWithStringSpec : ChangeSpec := { name := "fnIdentListNumFieldsAgreesWithString", fn := fun _ => fun
  | [d1, d2] => { results := [.lit (.bool true)], args := [d1, d2] }
  | _ => none }
def fnIdentListNumFieldsAgreesWithStringRow : OpenClaim := { program := "yoedyw", sum := "ebb1b2c4edf5da5d36efd4ed821a2b03d6f747d4d1c35ee956e6301704b44721", func := "github.com/d5/tengo/v2/zzlaws_parser_b1.FnIdentListNumFieldsAgreesWithString", spec := "fnIdentListNumFieldsAgreesWithString", inPlace := ["internal/abi.NoEscape", "internal/bytealg.MakeNoZero"], apart := false }
def FnIdentListNumFieldsAgreesWithStringSaid : Prop := fnIdentListNumFieldsAgreesWithStringRow.holds Edyg.pinned (OpenSpec.ofChange fnIdentListNumFieldsAgreesWithStringSpec)

/-- ITS FALSE NEIGHBOUR: 'it returns false'. Refute it at one input. -/
def fnIdentListNumFieldsAgreesWithStringWrong : ChangeSpec := { name := "fnIdentListNumFieldsAgreesWithString", fn := fun _ => fun
  | [d1, d2] => { results := [.lit (.bool false)], args := [d1, d2] }
  | _ => none }
def FnIdentListNumFieldsAgreesWithStringWrongFalsely : Prop := fnIdentListNumFieldsAgreesWithStringRow.holds Edyg.pinned (OpenSpec.ofChange fnIdentListNumFieldsAgreesWithStringWrong)

/-- 'zzlaws_parser_b1.FnIdentListStringDecodesBack': WHATEVER THE INPUT: true; the input reads as it did. -/
def fnIdentListStringDecodesBackSpec : ChangeSpec := { name := "fnIdentListStringDecodesBack", fn := fun _ => fun
  | [d1, d2] => { results := [.lit (.bool true)], args := [d1, d2] }
  | _ => none }
def fnIdentListStringDecodesBackRow : OpenClaim := { program := "yoedyw", sum := "ebb1b2c4edf5da5d36efd4ed821a2b03d6f747d4d1c35ee956e6301704b44721", func := "github.com/d5/tengo/v2/zzlaws_parser_b1.FnIdentListStringDecodesBack", spec := "fnIdentListStringDecodesBack", inPlace := ["internal/abi.NoEscape", "internal/bytealg.MakeNoZero"], apart := false }
def FnIdentListStringDecodesBackSaid : Prop := fnIdentListStringDecodesBackRow.holds Edyg.pinned (OpenSpec.ofChange fnIdentListStringDecodesBackSpec)

/-- ITS FALSE NEIGHBOUR: 'it returns false'. Refute it at one input. -/
def fnIdentListStringDecodesBackWrong : ChangeSpec := { name := "fnIdentListStringDecodesBack", fn := fun _ => fun
  | [d1, d2] => { results := [.lit (.bool false)], args := [d1, d2] }
  | _ => none }
def FnIdentListStringDecodesBackWrongFalsely : Prop := fnIdentListStringDecodesBackRow.holds Edyg.pinned (OpenSpec.ofChange fnIdentListStringDecodesBackWrong)

/-- 'zzlaws_parser_b1.FnIdentListStringLength': WHATEVER THE INPUT: true; the input reads as it did. -/
def fnIdentListStringLengthSpec : ChangeSpec := { name := "fnIdentListStringLength", fn := fun _ => fun
  | [d1, d2] => { results := [.lit (.bool true)], args := [d1, d2] }
  | _ => none }
def fnIdentListStringLengthRow : OpenClaim := { program := "yoedyw", sum := "ebb1b2c4edf5da5d36efd4ed821a2b03d6f747d4d1c35ee956e6301704b44721", func := "github.com/d5/tengo/v2/zzlaws_parser_b1.FnIdentListStringLength", spec := "fnIdentListStringLength", inPlace := ["internal/abi.NoEscape", "internal/bytealg.MakeNoZero"], apart := false }
def FnIdentListStringLengthSaid : Prop := fnIdentListStringLengthRow.holds Edyg.pinned (OpenSpec.ofChange fnIdentListStringLengthSpec)

/-- ITS FALSE NEIGHBOUR: 'it returns false'. Refute it at one input. -/
def fnIdentListStringLengthWrong : ChangeSpec := { name := "fnIdentListStringLength", fn := fun _ => fun
  | [d1, d2] => { results := [.lit (.bool false)], args := [d1, d2] }
  | _ => none }
def FnIdentListStringLengthWrongFalsely : Prop := fnIdentListStringLengthRow.holds Edyg.pinned (OpenSpec.ofChange fnIdentListStringLengthWrong)

end Rows
end Go.Proofs.Yoedyw
