/-
  No cell of these rows narrows 'for every input' (looked for: loops, veiled, ifaces, maps, wideKeys, modest, calm, conditions, laid).
  DERIVED. THE GIVEN ROWS OF THIS SEAT. 6 by the template 'for every input the law returns true; each argument reads behind the call as it read before'; 0 by the template 'total and deterministic' (their statements: Qxb6613730aTotals.lean).
  GIVEN WITH THE SEED: the statements are not yours to turn. If you find one false, say at which input.
  Laid BY PROGRAM, IN A SANDBOX (cutbox-rows.mjs): the forced cells as the released guide's own fill.sh prints them over the translation a9c1cfdb6da5acf6… (all of the seat's roots in one cut). By AI agents, Wed Nov 11 2026. No macro, syntax, notation, axiom, sorry.
-/
import Derived.Test.Qxb6613730aChecked
import GoSem.Claim
import GoSem.ClaimJoined
import GoSem.ClaimMapViews
import Derived.JoinedTies
import Derived.KernelRfl
namespace Go.Proofs.Qxb6613730a
/- THE CELL 'sum', in the pinned program and in every row, IS THE sha256 OF THE DUMP (.gsa) THAT Qxb6613730aProg.lean LOADS. Nothing in Lean hashes anything: it is a label: what it is worth is what the hold of that sum in a sandbox is worth. -/
noncomputable def Try.pinned : Pinned := { name := "qxb6613730a", sum := "a9c1cfdb6da5acf63b55e0c7924b5bb708fb8268c55332ada2e73b3fff754fa4", checked := Try.checked }
namespace Rows
def none {H : Type} : Left H := { results := [], args := [] }

/-- 'zzlaws_acl_b1.FnTurnsWithAnUnmodelledMatchExactlyUnlessContinue': WHATEVER THE INPUT: true; the input reads as it did. -/
def fnTurnsWithAnUnmodelledMatchExactlyUnlessContinueSpec : ChangeSpec := { name := "fnTurnsWithAnUnmodelledMatchExactlyUnlessContinue", fn := fun _ => fun
  | [d1, d2, d3] => { results := [.lit (.bool true)], args := [d1, d2, d3] }
  | _ => none }
def fnTurnsWithAnUnmodelledMatchExactlyUnlessContinueRow : OpenClaim := { program := "qxb6613730a", sum := "a9c1cfdb6da5acf63b55e0c7924b5bb708fb8268c55332ada2e73b3fff754fa4", func := "example.com/dueling-rules/dueling-rules/zzlaws_acl_b1.FnTurnsWithAnUnmodelledMatchExactlyUnlessContinue", spec := "fnTurnsWithAnUnmodelledMatchExactlyUnlessContinue", apart := false }
def FnTurnsWithAnUnmodelledMatchExactlyUnlessContinueSaid : Prop := fnTurnsWithAnUnmodelledMatchExactlyUnlessContinueRow.holds Try.pinned (OpenSpec.ofChange fnTurnsWithAnUnmodelledMatchExactlyUnlessContinueSpec)

/-- ITS FALSE NEIGHBOUR: 'it returns false'. Refute it at one input. -/
def fnTurnsWithAnUnmodelledMatchExactlyUnlessContinueWrong : ChangeSpec := { name := "fnTurnsWithAnUnmodelledMatchExactlyUnlessContinue", fn := fun _ => fun
  | [d1, d2, d3] => { results := [.lit (.bool false)], args := [d1, d2, d3] }
  | _ => none }
def FnTurnsWithAnUnmodelledMatchExactlyUnlessContinueWrongFalsely : Prop := fnTurnsWithAnUnmodelledMatchExactlyUnlessContinueRow.holds Try.pinned (OpenSpec.ofChange fnTurnsWithAnUnmodelledMatchExactlyUnlessContinueWrong)

/-- 'zzlaws_acl_b1.FnTurnsBareExactlyWhenSendsAndCountsOverActions': WHATEVER THE INPUT: true; the input reads as it did. -/
def fnTurnsBareExactlyWhenSendsAndCountsOverActionsSpec : ChangeSpec := { name := "fnTurnsBareExactlyWhenSendsAndCountsOverActions", fn := fun _ => fun
  | [d1, d2] => { results := [.lit (.bool true)], args := [d1, d2] }
  | _ => none }
def fnTurnsBareExactlyWhenSendsAndCountsOverActionsRow : OpenClaim := { program := "qxb6613730a", sum := "a9c1cfdb6da5acf63b55e0c7924b5bb708fb8268c55332ada2e73b3fff754fa4", func := "example.com/dueling-rules/dueling-rules/zzlaws_acl_b1.FnTurnsBareExactlyWhenSendsAndCountsOverActions", spec := "fnTurnsBareExactlyWhenSendsAndCountsOverActions", apart := false }
def FnTurnsBareExactlyWhenSendsAndCountsOverActionsSaid : Prop := fnTurnsBareExactlyWhenSendsAndCountsOverActionsRow.holds Try.pinned (OpenSpec.ofChange fnTurnsBareExactlyWhenSendsAndCountsOverActionsSpec)

/-- ITS FALSE NEIGHBOUR: 'it returns false'. Refute it at one input. -/
def fnTurnsBareExactlyWhenSendsAndCountsOverActionsWrong : ChangeSpec := { name := "fnTurnsBareExactlyWhenSendsAndCountsOverActions", fn := fun _ => fun
  | [d1, d2] => { results := [.lit (.bool false)], args := [d1, d2] }
  | _ => none }
def FnTurnsBareExactlyWhenSendsAndCountsOverActionsWrongFalsely : Prop := fnTurnsBareExactlyWhenSendsAndCountsOverActionsRow.holds Try.pinned (OpenSpec.ofChange fnTurnsBareExactlyWhenSendsAndCountsOverActionsWrong)

/-- 'zzlaws_acl_b1.FnUnmodelledOnAtAnyCut': WHATEVER THE INPUT: true; the input reads as it did. -/
def fnUnmodelledOnAtAnyCutSpec : ChangeSpec := { name := "fnUnmodelledOnAtAnyCut", fn := fun _ => fun
  | [d1, d2] => { results := [.lit (.bool true)], args := [d1, d2] }
  | _ => none }
def fnUnmodelledOnAtAnyCutRow : OpenClaim := { program := "qxb6613730a", sum := "a9c1cfdb6da5acf63b55e0c7924b5bb708fb8268c55332ada2e73b3fff754fa4", func := "example.com/dueling-rules/dueling-rules/zzlaws_acl_b1.FnUnmodelledOnAtAnyCut", spec := "fnUnmodelledOnAtAnyCut", apart := false }
def FnUnmodelledOnAtAnyCutSaid : Prop := fnUnmodelledOnAtAnyCutRow.holds Try.pinned (OpenSpec.ofChange fnUnmodelledOnAtAnyCutSpec)

/-- ITS FALSE NEIGHBOUR: 'it returns false'. Refute it at one input. -/
def fnUnmodelledOnAtAnyCutWrong : ChangeSpec := { name := "fnUnmodelledOnAtAnyCut", fn := fun _ => fun
  | [d1, d2] => { results := [.lit (.bool false)], args := [d1, d2] }
  | _ => none }
def FnUnmodelledOnAtAnyCutWrongFalsely : Prop := fnUnmodelledOnAtAnyCutRow.holds Try.pinned (OpenSpec.ofChange fnUnmodelledOnAtAnyCutWrong)

/-- 'zzlaws_acl_b1.FnUnmodelledOfGroupsEveryUse': WHATEVER THE INPUT: true; the input reads as it did. -/
def fnUnmodelledOfGroupsEveryUseSpec : ChangeSpec := { name := "fnUnmodelledOfGroupsEveryUse", fn := fun _ => fun
  | [d1, d2] => { results := [.lit (.bool true)], args := [d1, d2] }
  | _ => none }
def fnUnmodelledOfGroupsEveryUseRow : OpenClaim := { program := "qxb6613730a", sum := "a9c1cfdb6da5acf63b55e0c7924b5bb708fb8268c55332ada2e73b3fff754fa4", func := "example.com/dueling-rules/dueling-rules/zzlaws_acl_b1.FnUnmodelledOfGroupsEveryUse", spec := "fnUnmodelledOfGroupsEveryUse", unfollowed := true, recurses := true, apart := false }
def FnUnmodelledOfGroupsEveryUseSaid : Prop := fnUnmodelledOfGroupsEveryUseRow.holds Try.pinned (OpenSpec.ofChange fnUnmodelledOfGroupsEveryUseSpec)

/-- ITS FALSE NEIGHBOUR: 'it returns false'. Refute it at one input. -/
def fnUnmodelledOfGroupsEveryUseWrong : ChangeSpec := { name := "fnUnmodelledOfGroupsEveryUse", fn := fun _ => fun
  | [d1, d2] => { results := [.lit (.bool false)], args := [d1, d2] }
  | _ => none }
def FnUnmodelledOfGroupsEveryUseWrongFalsely : Prop := fnUnmodelledOfGroupsEveryUseRow.holds Try.pinned (OpenSpec.ofChange fnUnmodelledOfGroupsEveryUseWrong)

/-- 'zzlaws_acl_b1.FnUnmodelledOfTakesItsOwnAnswerBack': WHATEVER THE INPUT: true; the input reads as it did. -/
def fnUnmodelledOfTakesItsOwnAnswerBackSpec : ChangeSpec := { name := "fnUnmodelledOfTakesItsOwnAnswerBack", fn := fun _ => fun
  | [d1, d2] => { results := [.lit (.bool true)], args := [d1, d2] }
  | _ => none }
def fnUnmodelledOfTakesItsOwnAnswerBackRow : OpenClaim := { program := "qxb6613730a", sum := "a9c1cfdb6da5acf63b55e0c7924b5bb708fb8268c55332ada2e73b3fff754fa4", func := "example.com/dueling-rules/dueling-rules/zzlaws_acl_b1.FnUnmodelledOfTakesItsOwnAnswerBack", spec := "fnUnmodelledOfTakesItsOwnAnswerBack", unfollowed := true, recurses := true, apart := false }
def FnUnmodelledOfTakesItsOwnAnswerBackSaid : Prop := fnUnmodelledOfTakesItsOwnAnswerBackRow.holds Try.pinned (OpenSpec.ofChange fnUnmodelledOfTakesItsOwnAnswerBackSpec)

/-- ITS FALSE NEIGHBOUR: 'it returns false'. Refute it at one input. -/
def fnUnmodelledOfTakesItsOwnAnswerBackWrong : ChangeSpec := { name := "fnUnmodelledOfTakesItsOwnAnswerBack", fn := fun _ => fun
  | [d1, d2] => { results := [.lit (.bool false)], args := [d1, d2] }
  | _ => none }
def FnUnmodelledOfTakesItsOwnAnswerBackWrongFalsely : Prop := fnUnmodelledOfTakesItsOwnAnswerBackRow.holds Try.pinned (OpenSpec.ofChange fnUnmodelledOfTakesItsOwnAnswerBackWrong)

/-- 'zzlaws_acl_b1.FnMetInAnyOrderDropsSum': WHATEVER THE INPUT: true; the input reads as it did. -/
def fnMetInAnyOrderDropsSumSpec : ChangeSpec := { name := "fnMetInAnyOrderDropsSum", fn := fun _ => fun
  | [d1, d2, d3] => { results := [.lit (.bool true)], args := [d1, d2, d3] }
  | _ => none }
def fnMetInAnyOrderDropsSumRow : OpenClaim := { program := "qxb6613730a", sum := "a9c1cfdb6da5acf63b55e0c7924b5bb708fb8268c55332ada2e73b3fff754fa4", func := "example.com/dueling-rules/dueling-rules/zzlaws_acl_b1.FnMetInAnyOrderDropsSum", spec := "fnMetInAnyOrderDropsSum", inPlace := ["sync.NewCond", "(*internal/sync.Mutex).Lock", "internal/race.Disable", "sync/atomic.CompareAndSwapInt32", "internal/race.Enable", "internal/race.Acquire", "(*internal/sync.Mutex).lockSlow", "internal/sync.runtime_canSpin", "internal/sync.runtime_doSpin", "internal/sync.throw", "internal/sync.runtime_nanotime", "internal/sync.runtime_SemacquireMutex", "sync/atomic.AddInt32", "(*sync.Cond).Signal", "(*sync.copyChecker).check", "sync.runtime_notifyListNotifyOne", "(*internal/sync.Mutex).Unlock", "internal/race.ReleaseMerge", "(*internal/sync.Mutex).unlockSlow", "internal/sync.fatal", "internal/sync.runtime_Semrelease"], unfollowed := true, recurses := true, apart := false }
def FnMetInAnyOrderDropsSumSaid : Prop := fnMetInAnyOrderDropsSumRow.holds Try.pinned (OpenSpec.ofChange fnMetInAnyOrderDropsSumSpec)

/-- ITS FALSE NEIGHBOUR: 'it returns false'. Refute it at one input. -/
def fnMetInAnyOrderDropsSumWrong : ChangeSpec := { name := "fnMetInAnyOrderDropsSum", fn := fun _ => fun
  | [d1, d2, d3] => { results := [.lit (.bool false)], args := [d1, d2, d3] }
  | _ => none }
def FnMetInAnyOrderDropsSumWrongFalsely : Prop := fnMetInAnyOrderDropsSumRow.holds Try.pinned (OpenSpec.ofChange fnMetInAnyOrderDropsSumWrong)

end Rows
end Go.Proofs.Qxb6613730a
