/-
  No cell of these rows narrows 'for every input' (looked for: loops, veiled, ifaces, maps, wideKeys, modest, calm, conditions, laid).
  DERIVED. THE GIVEN ROWS OF THIS SEAT. 4 by the template 'for every input the law returns true; each argument reads behind the call as it read before'; 0 by the template 'total and deterministic' (their statements: Qxb6614286aTotals.lean).
  GIVEN WITH THE SEED: the statements are not yours to turn. If you find one false, say at which input.
  Laid BY PROGRAM, IN A SANDBOX (cutbox-rows.mjs): the forced cells as the released guide's own fill.sh prints them over the translation a5cdf90812cbfb3f… (all of the seat's roots in one cut). By AI agents, Wed Nov 11 2026. No macro, syntax, notation, axiom, sorry.
-/
import Derived.Test.Qxb6614286aChecked
import GoSem.Claim
import GoSem.ClaimJoined
import GoSem.ClaimMapViews
import Derived.JoinedTies
import Derived.KernelRfl
namespace Go.Proofs.Qxb6614286a
/- THE CELL 'sum', in the pinned program and in every row, IS THE sha256 OF THE DUMP (.gsa) THAT Qxb6614286aProg.lean LOADS. Nothing in Lean hashes anything: it is a label: what it is worth is what the hold of that sum in a sandbox is worth. -/
noncomputable def Try.pinned : Pinned := { name := "qxb6614286a", sum := "a5cdf90812cbfb3fa845a5c6e018aedd204c38f5225f220d334a66ff562cdd63", checked := Try.checked }
namespace Rows
def none {H : Type} : Left H := { results := [], args := [] }

/-- 'zzlaws_root_b1.FnNewDivisorQuotientExactOrOneShort': WHATEVER THE INPUT: true; the input reads as it did. -/
def fnNewDivisorQuotientExactOrOneShortSpec : ChangeSpec := { name := "fnNewDivisorQuotientExactOrOneShort", fn := fun _ => fun
  | [d1, d2] => { results := [.lit (.bool true)], args := [d1, d2] }
  | _ => none }
def fnNewDivisorQuotientExactOrOneShortRow : OpenClaim := { program := "qxb6614286a", sum := "a5cdf90812cbfb3fa845a5c6e018aedd204c38f5225f220d334a66ff562cdd63", func := "example.com/lazy-window/lazy-window/zzlaws_root_b1.FnNewDivisorQuotientExactOrOneShort", spec := "fnNewDivisorQuotientExactOrOneShort", apart := false }
def FnNewDivisorQuotientExactOrOneShortSaid : Prop := fnNewDivisorQuotientExactOrOneShortRow.holds Try.pinned (OpenSpec.ofChange fnNewDivisorQuotientExactOrOneShortSpec)

/-- ITS FALSE NEIGHBOUR: 'it returns false'. Refute it at one input. -/
def fnNewDivisorQuotientExactOrOneShortWrong : ChangeSpec := { name := "fnNewDivisorQuotientExactOrOneShort", fn := fun _ => fun
  | [d1, d2] => { results := [.lit (.bool false)], args := [d1, d2] }
  | _ => none }
def FnNewDivisorQuotientExactOrOneShortWrongFalsely : Prop := fnNewDivisorQuotientExactOrOneShortRow.holds Try.pinned (OpenSpec.ofChange fnNewDivisorQuotientExactOrOneShortWrong)

/-- 'zzlaws_root_b1.FnNewWindowHoldsExactlyItsBuckets': WHATEVER THE INPUT: true; the input reads as it did. -/
def fnNewWindowHoldsExactlyItsBucketsSpec : ChangeSpec := { name := "fnNewWindowHoldsExactlyItsBuckets", fn := fun _ => fun
  | [d1, d2, d3] => { results := [.lit (.bool true)], args := [d1, d2, d3] }
  | _ => none }
def fnNewWindowHoldsExactlyItsBucketsRow : OpenClaim := { program := "qxb6614286a", sum := "a5cdf90812cbfb3fa845a5c6e018aedd204c38f5225f220d334a66ff562cdd63", func := "example.com/lazy-window/lazy-window/zzlaws_root_b1.FnNewWindowHoldsExactlyItsBuckets", spec := "fnNewWindowHoldsExactlyItsBuckets", apart := false }
def FnNewWindowHoldsExactlyItsBucketsSaid : Prop := fnNewWindowHoldsExactlyItsBucketsRow.holds Try.pinned (OpenSpec.ofChange fnNewWindowHoldsExactlyItsBucketsSpec)

/-- ITS FALSE NEIGHBOUR: 'it returns false'. Refute it at one input. -/
def fnNewWindowHoldsExactlyItsBucketsWrong : ChangeSpec := { name := "fnNewWindowHoldsExactlyItsBuckets", fn := fun _ => fun
  | [d1, d2, d3] => { results := [.lit (.bool false)], args := [d1, d2, d3] }
  | _ => none }
def FnNewWindowHoldsExactlyItsBucketsWrongFalsely : Prop := fnNewWindowHoldsExactlyItsBucketsRow.holds Try.pinned (OpenSpec.ofChange fnNewWindowHoldsExactlyItsBucketsWrong)

/-- 'zzlaws_root_b1.FnPutScriptMatchesBucketModel': WHATEVER THE INPUT: true; the input reads as it did. -/
def fnPutScriptMatchesBucketModelSpec : ChangeSpec := { name := "fnPutScriptMatchesBucketModel", fn := fun _ => fun
  | [d1, d2, d3, d4] => { results := [.lit (.bool true)], args := [d1, d2, d3, d4] }
  | _ => none }
def fnPutScriptMatchesBucketModelRow : OpenClaim := { program := "qxb6614286a", sum := "a5cdf90812cbfb3fa845a5c6e018aedd204c38f5225f220d334a66ff562cdd63", func := "example.com/lazy-window/lazy-window/zzlaws_root_b1.FnPutScriptMatchesBucketModel", spec := "fnPutScriptMatchesBucketModel", apart := false }
def FnPutScriptMatchesBucketModelSaid : Prop := fnPutScriptMatchesBucketModelRow.holds Try.pinned (OpenSpec.ofChange fnPutScriptMatchesBucketModelSpec)

/-- ITS FALSE NEIGHBOUR: 'it returns false'. Refute it at one input. -/
def fnPutScriptMatchesBucketModelWrong : ChangeSpec := { name := "fnPutScriptMatchesBucketModel", fn := fun _ => fun
  | [d1, d2, d3, d4] => { results := [.lit (.bool false)], args := [d1, d2, d3, d4] }
  | _ => none }
def FnPutScriptMatchesBucketModelWrongFalsely : Prop := fnPutScriptMatchesBucketModelRow.holds Try.pinned (OpenSpec.ofChange fnPutScriptMatchesBucketModelWrong)

/-- 'zzlaws_root_b1.FnPutIsOrderFreeAndKeepsTotal': WHATEVER THE INPUT: true; the input reads as it did. -/
def fnPutIsOrderFreeAndKeepsTotalSpec : ChangeSpec := { name := "fnPutIsOrderFreeAndKeepsTotal", fn := fun _ => fun
  | [d1, d2, d3, d4] => { results := [.lit (.bool true)], args := [d1, d2, d3, d4] }
  | _ => none }
def fnPutIsOrderFreeAndKeepsTotalRow : OpenClaim := { program := "qxb6614286a", sum := "a5cdf90812cbfb3fa845a5c6e018aedd204c38f5225f220d334a66ff562cdd63", func := "example.com/lazy-window/lazy-window/zzlaws_root_b1.FnPutIsOrderFreeAndKeepsTotal", spec := "fnPutIsOrderFreeAndKeepsTotal", apart := false }
def FnPutIsOrderFreeAndKeepsTotalSaid : Prop := fnPutIsOrderFreeAndKeepsTotalRow.holds Try.pinned (OpenSpec.ofChange fnPutIsOrderFreeAndKeepsTotalSpec)

/-- ITS FALSE NEIGHBOUR: 'it returns false'. Refute it at one input. -/
def fnPutIsOrderFreeAndKeepsTotalWrong : ChangeSpec := { name := "fnPutIsOrderFreeAndKeepsTotal", fn := fun _ => fun
  | [d1, d2, d3, d4] => { results := [.lit (.bool false)], args := [d1, d2, d3, d4] }
  | _ => none }
def FnPutIsOrderFreeAndKeepsTotalWrongFalsely : Prop := fnPutIsOrderFreeAndKeepsTotalRow.holds Try.pinned (OpenSpec.ofChange fnPutIsOrderFreeAndKeepsTotalWrong)

end Rows
end Go.Proofs.Qxb6614286a
