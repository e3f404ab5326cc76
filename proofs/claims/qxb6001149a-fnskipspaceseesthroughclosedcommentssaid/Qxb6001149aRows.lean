/-
  No cell of these rows narrows 'for every input' (looked for: loops, veiled, ifaces, maps, wideKeys, modest, calm, conditions, laid).
  DERIVED. THE GIVEN ROWS OF THIS SEAT. 3 by the template 'for every input the law returns true; each argument reads behind the call as it read before'; 0 by the template 'total and deterministic' (their statements: Qxb6001149aTotals.lean).
  GIVEN WITH THE SEED: the statements are not yours to turn. If you find one false, say at which input.
  Laid BY PROGRAM, IN A SANDBOX (cutbox-rows.mjs): the forced cells as the released guide's own fill.sh prints them over the translation d532a87abce6e909… (all of the seat's roots in one cut). By AI agents, Wed Nov 11 2026. No macro, syntax, notation, axiom, sorry.
-/
import Derived.Test.Qxb6001149aChecked
import GoSem.Claim
import GoSem.ClaimJoined
import GoSem.ClaimMapViews
import Derived.JoinedTies
import Derived.KernelRfl
namespace Go.Proofs.Qxb6001149a
/- THE CELL 'sum', in the pinned program and in every row, IS THE sha256 OF THE DUMP (.gsa) THAT Qxb6001149aProg.lean LOADS. Nothing in Lean hashes anything: it is a label: what it is worth is what the hold of that sum in a sandbox is worth. -/
noncomputable def Try.pinned : Pinned := { name := "qxb6001149a", sum := "d532a87abce6e909ed4a277b588b25da0d301cd0869cf130f82379862efb2a77", checked := Try.checked }
namespace Rows
def none {H : Type} : Left H := { results := [], args := [] }

/-- 'zzlaws_internal_postgres_b1.FnSkipSpaceLeavesASuffixThatNeedsNoMoreSkipping': WHATEVER THE INPUT: true; the input reads as it did. -/
def fnSkipSpaceLeavesASuffixThatNeedsNoMoreSkippingSpec : ChangeSpec := { name := "fnSkipSpaceLeavesASuffixThatNeedsNoMoreSkipping", fn := fun _ => fun
  | [d] => { results := [.lit (.bool true)], args := [d] }
  | _ => none }
def fnSkipSpaceLeavesASuffixThatNeedsNoMoreSkippingRow : OpenClaim := { program := "qxb6001149a", sum := "d532a87abce6e909ed4a277b588b25da0d301cd0869cf130f82379862efb2a77", func := "example.com/handfast/handfast/zzlaws_internal_postgres_b1.FnSkipSpaceLeavesASuffixThatNeedsNoMoreSkipping", spec := "fnSkipSpaceLeavesASuffixThatNeedsNoMoreSkipping", inPlace := ["internal/bytealg.IndexByteString", "internal/bytealg.IndexString"], named := ["internal/bytealg.MaxLen"], apart := false }
def FnSkipSpaceLeavesASuffixThatNeedsNoMoreSkippingSaid : Prop := fnSkipSpaceLeavesASuffixThatNeedsNoMoreSkippingRow.holds Try.pinned (OpenSpec.ofChange fnSkipSpaceLeavesASuffixThatNeedsNoMoreSkippingSpec)

/-- ITS FALSE NEIGHBOUR: 'it returns false'. Refute it at one input. -/
def fnSkipSpaceLeavesASuffixThatNeedsNoMoreSkippingWrong : ChangeSpec := { name := "fnSkipSpaceLeavesASuffixThatNeedsNoMoreSkipping", fn := fun _ => fun
  | [d] => { results := [.lit (.bool false)], args := [d] }
  | _ => none }
def FnSkipSpaceLeavesASuffixThatNeedsNoMoreSkippingWrongFalsely : Prop := fnSkipSpaceLeavesASuffixThatNeedsNoMoreSkippingRow.holds Try.pinned (OpenSpec.ofChange fnSkipSpaceLeavesASuffixThatNeedsNoMoreSkippingWrong)

/-- 'zzlaws_internal_postgres_b1.FnSkipSpaceSeesThroughClosedComments': WHATEVER THE INPUT: true; the input reads as it did. -/
def fnSkipSpaceSeesThroughClosedCommentsSpec : ChangeSpec := { name := "fnSkipSpaceSeesThroughClosedComments", fn := fun _ => fun
  | [d1, d2] => { results := [.lit (.bool true)], args := [d1, d2] }
  | _ => none }
def fnSkipSpaceSeesThroughClosedCommentsRow : OpenClaim := { program := "qxb6001149a", sum := "d532a87abce6e909ed4a277b588b25da0d301cd0869cf130f82379862efb2a77", func := "example.com/handfast/handfast/zzlaws_internal_postgres_b1.FnSkipSpaceSeesThroughClosedComments", spec := "fnSkipSpaceSeesThroughClosedComments", inPlace := ["internal/bytealg.IndexByteString", "internal/bytealg.IndexString"], named := ["internal/bytealg.MaxLen"], apart := false }
def FnSkipSpaceSeesThroughClosedCommentsSaid : Prop := fnSkipSpaceSeesThroughClosedCommentsRow.holds Try.pinned (OpenSpec.ofChange fnSkipSpaceSeesThroughClosedCommentsSpec)

/-- ITS FALSE NEIGHBOUR: 'it returns false'. Refute it at one input. -/
def fnSkipSpaceSeesThroughClosedCommentsWrong : ChangeSpec := { name := "fnSkipSpaceSeesThroughClosedComments", fn := fun _ => fun
  | [d1, d2] => { results := [.lit (.bool false)], args := [d1, d2] }
  | _ => none }
def FnSkipSpaceSeesThroughClosedCommentsWrongFalsely : Prop := fnSkipSpaceSeesThroughClosedCommentsRow.holds Try.pinned (OpenSpec.ofChange fnSkipSpaceSeesThroughClosedCommentsWrong)

/-- 'zzlaws_internal_postgres_b1.FnSkipSpaceUnclosedCommentRunsToTheEnd': WHATEVER THE INPUT: true; the input reads as it did. -/
def fnSkipSpaceUnclosedCommentRunsToTheEndSpec : ChangeSpec := { name := "fnSkipSpaceUnclosedCommentRunsToTheEnd", fn := fun _ => fun
  | [d] => { results := [.lit (.bool true)], args := [d] }
  | _ => none }
def fnSkipSpaceUnclosedCommentRunsToTheEndRow : OpenClaim := { program := "qxb6001149a", sum := "d532a87abce6e909ed4a277b588b25da0d301cd0869cf130f82379862efb2a77", func := "example.com/handfast/handfast/zzlaws_internal_postgres_b1.FnSkipSpaceUnclosedCommentRunsToTheEnd", spec := "fnSkipSpaceUnclosedCommentRunsToTheEnd", inPlace := ["internal/bytealg.IndexByteString", "internal/bytealg.IndexString"], named := ["internal/bytealg.MaxLen"], apart := false }
def FnSkipSpaceUnclosedCommentRunsToTheEndSaid : Prop := fnSkipSpaceUnclosedCommentRunsToTheEndRow.holds Try.pinned (OpenSpec.ofChange fnSkipSpaceUnclosedCommentRunsToTheEndSpec)

/-- ITS FALSE NEIGHBOUR: 'it returns false'. Refute it at one input. -/
def fnSkipSpaceUnclosedCommentRunsToTheEndWrong : ChangeSpec := { name := "fnSkipSpaceUnclosedCommentRunsToTheEnd", fn := fun _ => fun
  | [d] => { results := [.lit (.bool false)], args := [d] }
  | _ => none }
def FnSkipSpaceUnclosedCommentRunsToTheEndWrongFalsely : Prop := fnSkipSpaceUnclosedCommentRunsToTheEndRow.holds Try.pinned (OpenSpec.ofChange fnSkipSpaceUnclosedCommentRunsToTheEndWrong)

end Rows
end Go.Proofs.Qxb6001149a
