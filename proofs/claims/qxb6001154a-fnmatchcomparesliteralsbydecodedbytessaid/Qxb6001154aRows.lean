/-
  No cell of these rows narrows 'for every input' (looked for: loops, veiled, ifaces, maps, wideKeys, modest, calm, conditions, laid).
  DERIVED. THE GIVEN ROWS OF THIS SEAT. 8 by the template 'for every input the law returns true; each argument reads behind the call as it read before'; 0 by the template 'total and deterministic' (their statements: Qxb6001154aTotals.lean).
  GIVEN WITH THE SEED: the statements are not yours to turn. If you find one false, say at which input.
  Laid BY PROGRAM, IN A SANDBOX (cutbox-rows.mjs): the forced cells as the released guide's own fill.sh prints them over the translation a39e1fb6fd33db64… (all of the seat's roots in one cut). By AI agents, Wed Nov 11 2026. No macro, syntax, notation, axiom, sorry.
-/
import Derived.Test.Qxb6001154aChecked
import GoSem.Claim
import GoSem.ClaimJoined
import GoSem.ClaimMapViews
import Derived.JoinedTies
import Derived.KernelRfl
namespace Go.Proofs.Qxb6001154a
/- THE CELL 'sum', in the pinned program and in every row, IS THE sha256 OF THE DUMP (.gsa) THAT Qxb6001154aProg.lean LOADS. Nothing in Lean hashes anything: it is a label: what it is worth is what the hold of that sum in a sandbox is worth. -/
noncomputable def Try.pinned : Pinned := { name := "qxb6001154a", sum := "a39e1fb6fd33db640a7958982a5d3530d09e9fb6cccc6c5620d5f999c9aae494", checked := Try.checked }
namespace Rows
def none {H : Type} : Left H := { results := [], args := [] }

/-- 'zzlaws_pathtemplate_b1.FnUnescapeInvertsPercentEncoding': WHATEVER THE INPUT: true; the input reads as it did. -/
def fnUnescapeInvertsPercentEncodingSpec : ChangeSpec := { name := "fnUnescapeInvertsPercentEncoding", fn := fun _ => fun
  | [d1, d2, d3] => { results := [.lit (.bool true)], args := [d1, d2, d3] }
  | _ => none }
def fnUnescapeInvertsPercentEncodingRow : OpenClaim := { program := "qxb6001154a", sum := "a39e1fb6fd33db640a7958982a5d3530d09e9fb6cccc6c5620d5f999c9aae494", func := "example.com/humble-transcoder/humble-transcoder/zzlaws_pathtemplate_b1.FnUnescapeInvertsPercentEncoding", spec := "fnUnescapeInvertsPercentEncoding", inPlace := ["internal/bytealg.IndexByteString"], apart := false }
def FnUnescapeInvertsPercentEncodingSaid : Prop := fnUnescapeInvertsPercentEncodingRow.holds Try.pinned (OpenSpec.ofChange fnUnescapeInvertsPercentEncodingSpec)

/-- ITS FALSE NEIGHBOUR: 'it returns false'. Refute it at one input. -/
def fnUnescapeInvertsPercentEncodingWrong : ChangeSpec := { name := "fnUnescapeInvertsPercentEncoding", fn := fun _ => fun
  | [d1, d2, d3] => { results := [.lit (.bool false)], args := [d1, d2, d3] }
  | _ => none }
def FnUnescapeInvertsPercentEncodingWrongFalsely : Prop := fnUnescapeInvertsPercentEncodingRow.holds Try.pinned (OpenSpec.ofChange fnUnescapeInvertsPercentEncodingWrong)

/-- 'zzlaws_pathtemplate_b1.FnUnescapeSplitsOverConcatenation': WHATEVER THE INPUT: true; the input reads as it did. -/
def fnUnescapeSplitsOverConcatenationSpec : ChangeSpec := { name := "fnUnescapeSplitsOverConcatenation", fn := fun _ => fun
  | [d1, d2, d3] => { results := [.lit (.bool true)], args := [d1, d2, d3] }
  | _ => none }
def fnUnescapeSplitsOverConcatenationRow : OpenClaim := { program := "qxb6001154a", sum := "a39e1fb6fd33db640a7958982a5d3530d09e9fb6cccc6c5620d5f999c9aae494", func := "example.com/humble-transcoder/humble-transcoder/zzlaws_pathtemplate_b1.FnUnescapeSplitsOverConcatenation", spec := "fnUnescapeSplitsOverConcatenation", inPlace := ["internal/bytealg.IndexByteString"], apart := false }
def FnUnescapeSplitsOverConcatenationSaid : Prop := fnUnescapeSplitsOverConcatenationRow.holds Try.pinned (OpenSpec.ofChange fnUnescapeSplitsOverConcatenationSpec)

/-- ITS FALSE NEIGHBOUR: 'it returns false'. Refute it at one input. -/
def fnUnescapeSplitsOverConcatenationWrong : ChangeSpec := { name := "fnUnescapeSplitsOverConcatenation", fn := fun _ => fun
  | [d1, d2, d3] => { results := [.lit (.bool false)], args := [d1, d2, d3] }
  | _ => none }
def FnUnescapeSplitsOverConcatenationWrongFalsely : Prop := fnUnescapeSplitsOverConcatenationRow.holds Try.pinned (OpenSpec.ofChange fnUnescapeSplitsOverConcatenationWrong)

/-- 'zzlaws_pathtemplate_b1.FnUnescapeShrinksTwoBytesPerDecodedOctet': WHATEVER THE INPUT: true; the input reads as it did. -/
def fnUnescapeShrinksTwoBytesPerDecodedOctetSpec : ChangeSpec := { name := "fnUnescapeShrinksTwoBytesPerDecodedOctet", fn := fun _ => fun
  | [d] => { results := [.lit (.bool true)], args := [d] }
  | _ => none }
def fnUnescapeShrinksTwoBytesPerDecodedOctetRow : OpenClaim := { program := "qxb6001154a", sum := "a39e1fb6fd33db640a7958982a5d3530d09e9fb6cccc6c5620d5f999c9aae494", func := "example.com/humble-transcoder/humble-transcoder/zzlaws_pathtemplate_b1.FnUnescapeShrinksTwoBytesPerDecodedOctet", spec := "fnUnescapeShrinksTwoBytesPerDecodedOctet", inPlace := ["internal/bytealg.IndexByteString"], apart := false }
def FnUnescapeShrinksTwoBytesPerDecodedOctetSaid : Prop := fnUnescapeShrinksTwoBytesPerDecodedOctetRow.holds Try.pinned (OpenSpec.ofChange fnUnescapeShrinksTwoBytesPerDecodedOctetSpec)

/-- ITS FALSE NEIGHBOUR: 'it returns false'. Refute it at one input. -/
def fnUnescapeShrinksTwoBytesPerDecodedOctetWrong : ChangeSpec := { name := "fnUnescapeShrinksTwoBytesPerDecodedOctet", fn := fun _ => fun
  | [d] => { results := [.lit (.bool false)], args := [d] }
  | _ => none }
def FnUnescapeShrinksTwoBytesPerDecodedOctetWrongFalsely : Prop := fnUnescapeShrinksTwoBytesPerDecodedOctetRow.holds Try.pinned (OpenSpec.ofChange fnUnescapeShrinksTwoBytesPerDecodedOctetWrong)

/-- 'zzlaws_pathtemplate_b1.FnMatchComparesLiteralsByDecodedBytes': WHATEVER THE INPUT: true; the input reads as it did. -/
def fnMatchComparesLiteralsByDecodedBytesSpec : ChangeSpec := { name := "fnMatchComparesLiteralsByDecodedBytes", fn := fun _ => fun
  | [d1, d2, d3] => { results := [.lit (.bool true)], args := [d1, d2, d3] }
  | _ => none }
def fnMatchComparesLiteralsByDecodedBytesRow : OpenClaim := { program := "qxb6001154a", sum := "a39e1fb6fd33db640a7958982a5d3530d09e9fb6cccc6c5620d5f999c9aae494", func := "example.com/humble-transcoder/humble-transcoder/zzlaws_pathtemplate_b1.FnMatchComparesLiteralsByDecodedBytes", spec := "fnMatchComparesLiteralsByDecodedBytes", inPlace := ["internal/bytealg.IndexByteString", "internal/bytealg.IndexString", "internal/abi.NoEscape", "internal/bytealg.MakeNoZero"], named := ["internal/bytealg.MaxLen"], apart := false }
def FnMatchComparesLiteralsByDecodedBytesSaid : Prop := fnMatchComparesLiteralsByDecodedBytesRow.holds Try.pinned (OpenSpec.ofChange fnMatchComparesLiteralsByDecodedBytesSpec)

/-- ITS FALSE NEIGHBOUR: 'it returns false'. Refute it at one input. -/
def fnMatchComparesLiteralsByDecodedBytesWrong : ChangeSpec := { name := "fnMatchComparesLiteralsByDecodedBytes", fn := fun _ => fun
  | [d1, d2, d3] => { results := [.lit (.bool false)], args := [d1, d2, d3] }
  | _ => none }
def FnMatchComparesLiteralsByDecodedBytesWrongFalsely : Prop := fnMatchComparesLiteralsByDecodedBytesRow.holds Try.pinned (OpenSpec.ofChange fnMatchComparesLiteralsByDecodedBytesWrong)

/-- 'zzlaws_pathtemplate_b1.FnMatchBindsEachWildcardDecoded': WHATEVER THE INPUT: true; the input reads as it did. -/
def fnMatchBindsEachWildcardDecodedSpec : ChangeSpec := { name := "fnMatchBindsEachWildcardDecoded", fn := fun _ => fun
  | [d1, d2] => { results := [.lit (.bool true)], args := [d1, d2] }
  | _ => none }
def fnMatchBindsEachWildcardDecodedRow : OpenClaim := { program := "qxb6001154a", sum := "a39e1fb6fd33db640a7958982a5d3530d09e9fb6cccc6c5620d5f999c9aae494", func := "example.com/humble-transcoder/humble-transcoder/zzlaws_pathtemplate_b1.FnMatchBindsEachWildcardDecoded", spec := "fnMatchBindsEachWildcardDecoded", inPlace := ["internal/bytealg.IndexByteString", "internal/bytealg.IndexString", "internal/abi.NoEscape", "internal/bytealg.MakeNoZero"], named := ["internal/bytealg.MaxLen"], apart := false }
def FnMatchBindsEachWildcardDecodedSaid : Prop := fnMatchBindsEachWildcardDecodedRow.holds Try.pinned (OpenSpec.ofChange fnMatchBindsEachWildcardDecodedSpec)

/-- ITS FALSE NEIGHBOUR: 'it returns false'. Refute it at one input. -/
def fnMatchBindsEachWildcardDecodedWrong : ChangeSpec := { name := "fnMatchBindsEachWildcardDecoded", fn := fun _ => fun
  | [d1, d2] => { results := [.lit (.bool false)], args := [d1, d2] }
  | _ => none }
def FnMatchBindsEachWildcardDecodedWrongFalsely : Prop := fnMatchBindsEachWildcardDecodedRow.holds Try.pinned (OpenSpec.ofChange fnMatchBindsEachWildcardDecodedWrong)

/-- 'zzlaws_pathtemplate_b1.FnMatchDoubleWildcardBindsTheRest': WHATEVER THE INPUT: true; the input reads as it did. -/
def fnMatchDoubleWildcardBindsTheRestSpec : ChangeSpec := { name := "fnMatchDoubleWildcardBindsTheRest", fn := fun _ => fun
  | [d1, d2] => { results := [.lit (.bool true)], args := [d1, d2] }
  | _ => none }
def fnMatchDoubleWildcardBindsTheRestRow : OpenClaim := { program := "qxb6001154a", sum := "a39e1fb6fd33db640a7958982a5d3530d09e9fb6cccc6c5620d5f999c9aae494", func := "example.com/humble-transcoder/humble-transcoder/zzlaws_pathtemplate_b1.FnMatchDoubleWildcardBindsTheRest", spec := "fnMatchDoubleWildcardBindsTheRest", inPlace := ["internal/bytealg.IndexByteString", "internal/bytealg.IndexString", "internal/abi.NoEscape", "internal/bytealg.MakeNoZero"], named := ["internal/bytealg.MaxLen"], apart := false }
def FnMatchDoubleWildcardBindsTheRestSaid : Prop := fnMatchDoubleWildcardBindsTheRestRow.holds Try.pinned (OpenSpec.ofChange fnMatchDoubleWildcardBindsTheRestSpec)

/-- ITS FALSE NEIGHBOUR: 'it returns false'. Refute it at one input. -/
def fnMatchDoubleWildcardBindsTheRestWrong : ChangeSpec := { name := "fnMatchDoubleWildcardBindsTheRest", fn := fun _ => fun
  | [d1, d2] => { results := [.lit (.bool false)], args := [d1, d2] }
  | _ => none }
def FnMatchDoubleWildcardBindsTheRestWrongFalsely : Prop := fnMatchDoubleWildcardBindsTheRestRow.holds Try.pinned (OpenSpec.ofChange fnMatchDoubleWildcardBindsTheRestWrong)

/-- 'zzlaws_pathtemplate_b1.FnAddKeysLiteralsByDecodedBytes': WHATEVER THE INPUT: true; the input reads as it did. -/
def fnAddKeysLiteralsByDecodedBytesSpec : ChangeSpec := { name := "fnAddKeysLiteralsByDecodedBytes", fn := fun _ => fun
  | [d1, d2, d3, d4] => { results := [.lit (.bool true)], args := [d1, d2, d3, d4] }
  | _ => none }
def fnAddKeysLiteralsByDecodedBytesRow : OpenClaim := { program := "qxb6001154a", sum := "a39e1fb6fd33db640a7958982a5d3530d09e9fb6cccc6c5620d5f999c9aae494", func := "example.com/humble-transcoder/humble-transcoder/zzlaws_pathtemplate_b1.FnAddKeysLiteralsByDecodedBytes", spec := "fnAddKeysLiteralsByDecodedBytes", inPlace := ["internal/bytealg.IndexByteString"], apart := false }
def FnAddKeysLiteralsByDecodedBytesSaid : Prop := fnAddKeysLiteralsByDecodedBytesRow.holds Try.pinned (OpenSpec.ofChange fnAddKeysLiteralsByDecodedBytesSpec)

/-- ITS FALSE NEIGHBOUR: 'it returns false'. Refute it at one input. -/
def fnAddKeysLiteralsByDecodedBytesWrong : ChangeSpec := { name := "fnAddKeysLiteralsByDecodedBytes", fn := fun _ => fun
  | [d1, d2, d3, d4] => { results := [.lit (.bool false)], args := [d1, d2, d3, d4] }
  | _ => none }
def FnAddKeysLiteralsByDecodedBytesWrongFalsely : Prop := fnAddKeysLiteralsByDecodedBytesRow.holds Try.pinned (OpenSpec.ofChange fnAddKeysLiteralsByDecodedBytesWrong)

/-- 'zzlaws_pathtemplate_b1.FnAddKeepsEarlierTemplates': WHATEVER THE INPUT: true; the input reads as it did. -/
def fnAddKeepsEarlierTemplatesSpec : ChangeSpec := { name := "fnAddKeepsEarlierTemplates", fn := fun _ => fun
  | [d1, d2, d3, d4, d5, d6] => { results := [.lit (.bool true)], args := [d1, d2, d3, d4, d5, d6] }
  | _ => none }
def fnAddKeepsEarlierTemplatesRow : OpenClaim := { program := "qxb6001154a", sum := "a39e1fb6fd33db640a7958982a5d3530d09e9fb6cccc6c5620d5f999c9aae494", func := "example.com/humble-transcoder/humble-transcoder/zzlaws_pathtemplate_b1.FnAddKeepsEarlierTemplates", spec := "fnAddKeepsEarlierTemplates", inPlace := ["internal/bytealg.IndexByteString"], apart := false }
def FnAddKeepsEarlierTemplatesSaid : Prop := fnAddKeepsEarlierTemplatesRow.holds Try.pinned (OpenSpec.ofChange fnAddKeepsEarlierTemplatesSpec)

/-- ITS FALSE NEIGHBOUR: 'it returns false'. Refute it at one input. -/
def fnAddKeepsEarlierTemplatesWrong : ChangeSpec := { name := "fnAddKeepsEarlierTemplates", fn := fun _ => fun
  | [d1, d2, d3, d4, d5, d6] => { results := [.lit (.bool false)], args := [d1, d2, d3, d4, d5, d6] }
  | _ => none }
def FnAddKeepsEarlierTemplatesWrongFalsely : Prop := fnAddKeepsEarlierTemplatesRow.holds Try.pinned (OpenSpec.ofChange fnAddKeepsEarlierTemplatesWrong)

end Rows
end Go.Proofs.Qxb6001154a
