/-
  No cell of these rows narrows 'for every input' (looked for: loops, veiled, ifaces, maps, wideKeys, modest, calm, conditions, laid).
  DERIVED. THE GIVEN ROWS OF THIS SEAT. 5 by the template 'for every input the law returns true; each argument reads behind the call as it read before'; 0 by the template 'total and deterministic' (their statements: Qxb6602169aTotals.lean).
  GIVEN WITH THE SEED: the statements are not yours to turn. If you find one false, say at which input.
  Laid BY PROGRAM, IN A SANDBOX (cutbox-rows.mjs): the forced cells as the released guide's own fill.sh prints them over the translation 3e38b81bc8ab2917… (all of the seat's roots in one cut). By AI agents, Wed Nov 11 2026. No macro, syntax, notation, axiom, sorry.
-/
import Derived.Test.Qxb6602169aChecked
import GoSem.Claim
import GoSem.ClaimJoined
import GoSem.ClaimMapViews
import Derived.JoinedTies
import Derived.KernelRfl
namespace Go.Proofs.Qxb6602169a
/- THE CELL 'sum', in the pinned program and in every row, IS THE sha256 OF THE DUMP (.gsa) THAT Qxb6602169aProg.lean LOADS. Nothing in Lean hashes anything: it is a label: what it is worth is what the hold of that sum in a sandbox is worth. -/
noncomputable def Try.pinned : Pinned := { name := "qxb6602169a", sum := "3e38b81bc8ab2917a3c5aae5cd45cb37fbe32384a9f995a01cc6a2e305aa2988", checked := Try.checked }
namespace Rows
def none {H : Type} : Left H := { results := [], args := [] }

/-- 'zzlaws_internal_quickjson_b1.FnIntegerConsumesTheSignedDigitRunAndKeepsOnlyJSONIntegers': WHATEVER THE INPUT: true; the input reads as it did. -/
def fnIntegerConsumesTheSignedDigitRunAndKeepsOnlyJSONIntegersSpec : ChangeSpec := { name := "fnIntegerConsumesTheSignedDigitRunAndKeepsOnlyJSONIntegers", fn := fun _ => fun
  | [d1, d2] => { results := [.lit (.bool true)], args := [d1, d2] }
  | _ => none }
def fnIntegerConsumesTheSignedDigitRunAndKeepsOnlyJSONIntegersRow : OpenClaim := { program := "qxb6602169a", sum := "3e38b81bc8ab2917a3c5aae5cd45cb37fbe32384a9f995a01cc6a2e305aa2988", func := "example.com/vestledger/vestledger/zzlaws_internal_quickjson_b1.FnIntegerConsumesTheSignedDigitRunAndKeepsOnlyJSONIntegers", spec := "fnIntegerConsumesTheSignedDigitRunAndKeepsOnlyJSONIntegers", apart := false }
def FnIntegerConsumesTheSignedDigitRunAndKeepsOnlyJSONIntegersSaid : Prop := fnIntegerConsumesTheSignedDigitRunAndKeepsOnlyJSONIntegersRow.holds Try.pinned (OpenSpec.ofChange fnIntegerConsumesTheSignedDigitRunAndKeepsOnlyJSONIntegersSpec)

/-- ITS FALSE NEIGHBOUR: 'it returns false'. Refute it at one input. -/
def fnIntegerConsumesTheSignedDigitRunAndKeepsOnlyJSONIntegersWrong : ChangeSpec := { name := "fnIntegerConsumesTheSignedDigitRunAndKeepsOnlyJSONIntegers", fn := fun _ => fun
  | [d1, d2] => { results := [.lit (.bool false)], args := [d1, d2] }
  | _ => none }
def FnIntegerConsumesTheSignedDigitRunAndKeepsOnlyJSONIntegersWrongFalsely : Prop := fnIntegerConsumesTheSignedDigitRunAndKeepsOnlyJSONIntegersRow.holds Try.pinned (OpenSpec.ofChange fnIntegerConsumesTheSignedDigitRunAndKeepsOnlyJSONIntegersWrong)

/-- 'zzlaws_internal_quickjson_b1.FnIntegerReadsBackAnyInt64sDecimalText': WHATEVER THE INPUT: true; the input reads as it did. -/
def fnIntegerReadsBackAnyInt64sDecimalTextSpec : ChangeSpec := { name := "fnIntegerReadsBackAnyInt64sDecimalText", fn := fun _ => fun
  | [d1, d2, d3] => { results := [.lit (.bool true)], args := [d1, d2, d3] }
  | _ => none }
def fnIntegerReadsBackAnyInt64sDecimalTextRow : OpenClaim := { program := "qxb6602169a", sum := "3e38b81bc8ab2917a3c5aae5cd45cb37fbe32384a9f995a01cc6a2e305aa2988", func := "example.com/vestledger/vestledger/zzlaws_internal_quickjson_b1.FnIntegerReadsBackAnyInt64sDecimalText", spec := "fnIntegerReadsBackAnyInt64sDecimalText", apart := false }
def FnIntegerReadsBackAnyInt64sDecimalTextSaid : Prop := fnIntegerReadsBackAnyInt64sDecimalTextRow.holds Try.pinned (OpenSpec.ofChange fnIntegerReadsBackAnyInt64sDecimalTextSpec)

/-- ITS FALSE NEIGHBOUR: 'it returns false'. Refute it at one input. -/
def fnIntegerReadsBackAnyInt64sDecimalTextWrong : ChangeSpec := { name := "fnIntegerReadsBackAnyInt64sDecimalText", fn := fun _ => fun
  | [d1, d2, d3] => { results := [.lit (.bool false)], args := [d1, d2, d3] }
  | _ => none }
def FnIntegerReadsBackAnyInt64sDecimalTextWrongFalsely : Prop := fnIntegerReadsBackAnyInt64sDecimalTextRow.holds Try.pinned (OpenSpec.ofChange fnIntegerReadsBackAnyInt64sDecimalTextWrong)

/-- 'zzlaws_internal_quickjson_b1.FnTakeScriptConsumesExactlyTheCommonPrefix': WHATEVER THE INPUT: true; the input reads as it did. -/
def fnTakeScriptConsumesExactlyTheCommonPrefixSpec : ChangeSpec := { name := "fnTakeScriptConsumesExactlyTheCommonPrefix", fn := fun _ => fun
  | [d1, d2, d3] => { results := [.lit (.bool true)], args := [d1, d2, d3] }
  | _ => none }
def fnTakeScriptConsumesExactlyTheCommonPrefixRow : OpenClaim := { program := "qxb6602169a", sum := "3e38b81bc8ab2917a3c5aae5cd45cb37fbe32384a9f995a01cc6a2e305aa2988", func := "example.com/vestledger/vestledger/zzlaws_internal_quickjson_b1.FnTakeScriptConsumesExactlyTheCommonPrefix", spec := "fnTakeScriptConsumesExactlyTheCommonPrefix", apart := false }
def FnTakeScriptConsumesExactlyTheCommonPrefixSaid : Prop := fnTakeScriptConsumesExactlyTheCommonPrefixRow.holds Try.pinned (OpenSpec.ofChange fnTakeScriptConsumesExactlyTheCommonPrefixSpec)

/-- ITS FALSE NEIGHBOUR: 'it returns false'. Refute it at one input. -/
def fnTakeScriptConsumesExactlyTheCommonPrefixWrong : ChangeSpec := { name := "fnTakeScriptConsumesExactlyTheCommonPrefix", fn := fun _ => fun
  | [d1, d2, d3] => { results := [.lit (.bool false)], args := [d1, d2, d3] }
  | _ => none }
def FnTakeScriptConsumesExactlyTheCommonPrefixWrongFalsely : Prop := fnTakeScriptConsumesExactlyTheCommonPrefixRow.holds Try.pinned (OpenSpec.ofChange fnTakeScriptConsumesExactlyTheCommonPrefixWrong)

/-- 'zzlaws_internal_quickjson_b1.FnPlainNameIsPrintableASCIIButFive': WHATEVER THE INPUT: true; the input reads as it did. -/
def fnPlainNameIsPrintableASCIIButFiveSpec : ChangeSpec := { name := "fnPlainNameIsPrintableASCIIButFive", fn := fun _ => fun
  | [d] => { results := [.lit (.bool true)], args := [d] }
  | _ => none }
def fnPlainNameIsPrintableASCIIButFiveRow : OpenClaim := { program := "qxb6602169a", sum := "3e38b81bc8ab2917a3c5aae5cd45cb37fbe32384a9f995a01cc6a2e305aa2988", func := "example.com/vestledger/vestledger/zzlaws_internal_quickjson_b1.FnPlainNameIsPrintableASCIIButFive", spec := "fnPlainNameIsPrintableASCIIButFive", inPlace := ["internal/bytealg.IndexByteString", "internal/bytealg.IndexString"], named := ["internal/bytealg.MaxLen"], apart := false }
def FnPlainNameIsPrintableASCIIButFiveSaid : Prop := fnPlainNameIsPrintableASCIIButFiveRow.holds Try.pinned (OpenSpec.ofChange fnPlainNameIsPrintableASCIIButFiveSpec)

/-- ITS FALSE NEIGHBOUR: 'it returns false'. Refute it at one input. -/
def fnPlainNameIsPrintableASCIIButFiveWrong : ChangeSpec := { name := "fnPlainNameIsPrintableASCIIButFive", fn := fun _ => fun
  | [d] => { results := [.lit (.bool false)], args := [d] }
  | _ => none }
def FnPlainNameIsPrintableASCIIButFiveWrongFalsely : Prop := fnPlainNameIsPrintableASCIIButFiveRow.holds Try.pinned (OpenSpec.ofChange fnPlainNameIsPrintableASCIIButFiveWrong)

/-- 'zzlaws_internal_quickjson_b1.FnPlainNameOfAConcatenationIsBothPlain': WHATEVER THE INPUT: true; the input reads as it did. -/
def fnPlainNameOfAConcatenationIsBothPlainSpec : ChangeSpec := { name := "fnPlainNameOfAConcatenationIsBothPlain", fn := fun _ => fun
  | [d1, d2] => { results := [.lit (.bool true)], args := [d1, d2] }
  | _ => none }
def fnPlainNameOfAConcatenationIsBothPlainRow : OpenClaim := { program := "qxb6602169a", sum := "3e38b81bc8ab2917a3c5aae5cd45cb37fbe32384a9f995a01cc6a2e305aa2988", func := "example.com/vestledger/vestledger/zzlaws_internal_quickjson_b1.FnPlainNameOfAConcatenationIsBothPlain", spec := "fnPlainNameOfAConcatenationIsBothPlain", inPlace := ["internal/bytealg.IndexByteString", "internal/bytealg.IndexString"], named := ["internal/bytealg.MaxLen"], apart := false }
def FnPlainNameOfAConcatenationIsBothPlainSaid : Prop := fnPlainNameOfAConcatenationIsBothPlainRow.holds Try.pinned (OpenSpec.ofChange fnPlainNameOfAConcatenationIsBothPlainSpec)

/-- ITS FALSE NEIGHBOUR: 'it returns false'. Refute it at one input. -/
def fnPlainNameOfAConcatenationIsBothPlainWrong : ChangeSpec := { name := "fnPlainNameOfAConcatenationIsBothPlain", fn := fun _ => fun
  | [d1, d2] => { results := [.lit (.bool false)], args := [d1, d2] }
  | _ => none }
def FnPlainNameOfAConcatenationIsBothPlainWrongFalsely : Prop := fnPlainNameOfAConcatenationIsBothPlainRow.holds Try.pinned (OpenSpec.ofChange fnPlainNameOfAConcatenationIsBothPlainWrong)

end Rows
end Go.Proofs.Qxb6602169a
