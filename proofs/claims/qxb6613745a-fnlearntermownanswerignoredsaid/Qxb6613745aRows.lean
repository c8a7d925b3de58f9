/-
  No cell of these rows narrows 'for every input' (looked for: loops, veiled, ifaces, maps, wideKeys, modest, calm, conditions, laid).
  DERIVED. THE GIVEN ROWS OF THIS SEAT. 4 by the template 'for every input the law returns true; each argument reads behind the call as it read before'; 0 by the template 'total and deterministic' (their statements: Qxb6613745aTotals.lean).
  GIVEN WITH THE SEED: the statements are not yours to turn. If you find one false, say at which input.
  Laid BY PROGRAM, IN A SANDBOX (cutbox-rows.mjs): the forced cells as the released guide's own fill.sh prints them over the translation b7ac5abe4027fa64… (all of the seat's roots in one cut). By AI agents, Wed Nov 11 2026. No macro, syntax, notation, axiom, sorry.
-/
import Derived.Test.Qxb6613745aChecked
import GoSem.Claim
import GoSem.ClaimJoined
import GoSem.ClaimMapViews
import Derived.JoinedTies
import Derived.KernelRfl
namespace Go.Proofs.Qxb6613745a
/- THE CELL 'sum', in the pinned program and in every row, IS THE sha256 OF THE DUMP (.gsa) THAT Qxb6613745aProg.lean LOADS. Nothing in Lean hashes anything: it is a label: what it is worth is what the hold of that sum in a sandbox is worth. -/
noncomputable def Try.pinned : Pinned := { name := "qxb6613745a", sum := "b7ac5abe4027fa647d248eb022b1adce05fe5a117e202a3e23cffc71dbfc3103", checked := Try.checked }
namespace Rows
def none {H : Type} : Left H := { results := [], args := [] }

/-- 'zzlaws_raft_b1.FnIsMemberSelfInsertedAndJoin': WHATEVER THE INPUT: true; the input reads as it did. -/
def fnIsMemberSelfInsertedAndJoinSpec : ChangeSpec := { name := "fnIsMemberSelfInsertedAndJoin", fn := fun _ => fun
  | [d1, d2, d3, d4] => { results := [.lit (.bool true)], args := [d1, d2, d3, d4] }
  | _ => none }
def fnIsMemberSelfInsertedAndJoinRow : OpenClaim := { program := "qxb6613745a", sum := "b7ac5abe4027fa647d248eb022b1adce05fe5a117e202a3e23cffc71dbfc3103", func := "example.com/quorumline/quorumline/zzlaws_raft_b1.FnIsMemberSelfInsertedAndJoin", spec := "fnIsMemberSelfInsertedAndJoin", unfollowed := true, recurses := true, apart := false }
def FnIsMemberSelfInsertedAndJoinSaid : Prop := fnIsMemberSelfInsertedAndJoinRow.holds Try.pinned (OpenSpec.ofChange fnIsMemberSelfInsertedAndJoinSpec)

/-- ITS FALSE NEIGHBOUR: 'it returns false'. Refute it at one input. -/
def fnIsMemberSelfInsertedAndJoinWrong : ChangeSpec := { name := "fnIsMemberSelfInsertedAndJoin", fn := fun _ => fun
  | [d1, d2, d3, d4] => { results := [.lit (.bool false)], args := [d1, d2, d3, d4] }
  | _ => none }
def FnIsMemberSelfInsertedAndJoinWrongFalsely : Prop := fnIsMemberSelfInsertedAndJoinRow.holds Try.pinned (OpenSpec.ofChange fnIsMemberSelfInsertedAndJoinWrong)

/-- 'zzlaws_raft_b1.FnIsMemberDropsOwnEntries': WHATEVER THE INPUT: true; the input reads as it did. -/
def fnIsMemberDropsOwnEntriesSpec : ChangeSpec := { name := "fnIsMemberDropsOwnEntries", fn := fun _ => fun
  | [d1, d2] => { results := [.lit (.bool true)], args := [d1, d2] }
  | _ => none }
def fnIsMemberDropsOwnEntriesRow : OpenClaim := { program := "qxb6613745a", sum := "b7ac5abe4027fa647d248eb022b1adce05fe5a117e202a3e23cffc71dbfc3103", func := "example.com/quorumline/quorumline/zzlaws_raft_b1.FnIsMemberDropsOwnEntries", spec := "fnIsMemberDropsOwnEntries", unfollowed := true, recurses := true, apart := false }
def FnIsMemberDropsOwnEntriesSaid : Prop := fnIsMemberDropsOwnEntriesRow.holds Try.pinned (OpenSpec.ofChange fnIsMemberDropsOwnEntriesSpec)

/-- ITS FALSE NEIGHBOUR: 'it returns false'. Refute it at one input. -/
def fnIsMemberDropsOwnEntriesWrong : ChangeSpec := { name := "fnIsMemberDropsOwnEntries", fn := fun _ => fun
  | [d1, d2] => { results := [.lit (.bool false)], args := [d1, d2] }
  | _ => none }
def FnIsMemberDropsOwnEntriesWrongFalsely : Prop := fnIsMemberDropsOwnEntriesRow.holds Try.pinned (OpenSpec.ofChange fnIsMemberDropsOwnEntriesWrong)

/-- 'zzlaws_raft_b1.FnLearnTermMoreAnswersStillEnough': WHATEVER THE INPUT: true; the input reads as it did. -/
def fnLearnTermMoreAnswersStillEnoughSpec : ChangeSpec := { name := "fnLearnTermMoreAnswersStillEnough", fn := fun _ => fun
  | [d1, d2, d3, d4, d5] => { results := [.lit (.bool true)], args := [d1, d2, d3, d4, d5] }
  | _ => none }
def fnLearnTermMoreAnswersStillEnoughRow : OpenClaim := { program := "qxb6613745a", sum := "b7ac5abe4027fa647d248eb022b1adce05fe5a117e202a3e23cffc71dbfc3103", func := "example.com/quorumline/quorumline/zzlaws_raft_b1.FnLearnTermMoreAnswersStillEnough", spec := "fnLearnTermMoreAnswersStillEnough", unfollowed := true, recurses := true, apart := false }
def FnLearnTermMoreAnswersStillEnoughSaid : Prop := fnLearnTermMoreAnswersStillEnoughRow.holds Try.pinned (OpenSpec.ofChange fnLearnTermMoreAnswersStillEnoughSpec)

/-- ITS FALSE NEIGHBOUR: 'it returns false'. Refute it at one input. -/
def fnLearnTermMoreAnswersStillEnoughWrong : ChangeSpec := { name := "fnLearnTermMoreAnswersStillEnough", fn := fun _ => fun
  | [d1, d2, d3, d4, d5] => { results := [.lit (.bool false)], args := [d1, d2, d3, d4, d5] }
  | _ => none }
def FnLearnTermMoreAnswersStillEnoughWrongFalsely : Prop := fnLearnTermMoreAnswersStillEnoughRow.holds Try.pinned (OpenSpec.ofChange fnLearnTermMoreAnswersStillEnoughWrong)

/-- 'zzlaws_raft_b1.FnLearnTermOwnAnswerIgnored': WHATEVER THE INPUT: true; the input reads as it did. -/
def fnLearnTermOwnAnswerIgnoredSpec : ChangeSpec := { name := "fnLearnTermOwnAnswerIgnored", fn := fun _ => fun
  | [d1, d2, d3, d4, d5] => { results := [.lit (.bool true)], args := [d1, d2, d3, d4, d5] }
  | _ => none }
def fnLearnTermOwnAnswerIgnoredRow : OpenClaim := { program := "qxb6613745a", sum := "b7ac5abe4027fa647d248eb022b1adce05fe5a117e202a3e23cffc71dbfc3103", func := "example.com/quorumline/quorumline/zzlaws_raft_b1.FnLearnTermOwnAnswerIgnored", spec := "fnLearnTermOwnAnswerIgnored", unfollowed := true, recurses := true, apart := false }
def FnLearnTermOwnAnswerIgnoredSaid : Prop := fnLearnTermOwnAnswerIgnoredRow.holds Try.pinned (OpenSpec.ofChange fnLearnTermOwnAnswerIgnoredSpec)

/-- ITS FALSE NEIGHBOUR: 'it returns false'. Refute it at one input. -/
def fnLearnTermOwnAnswerIgnoredWrong : ChangeSpec := { name := "fnLearnTermOwnAnswerIgnored", fn := fun _ => fun
  | [d1, d2, d3, d4, d5] => { results := [.lit (.bool false)], args := [d1, d2, d3, d4, d5] }
  | _ => none }
def FnLearnTermOwnAnswerIgnoredWrongFalsely : Prop := fnLearnTermOwnAnswerIgnoredRow.holds Try.pinned (OpenSpec.ofChange fnLearnTermOwnAnswerIgnoredWrong)

end Rows
end Go.Proofs.Qxb6613745a
