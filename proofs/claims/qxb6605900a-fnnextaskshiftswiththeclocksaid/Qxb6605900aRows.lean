/-
  No cell of these rows narrows 'for every input' (looked for: loops, veiled, ifaces, maps, wideKeys, modest, calm, conditions, laid).
  DERIVED. THE GIVEN ROWS OF THIS SEAT. 5 by the template 'for every input the law returns true; each argument reads behind the call as it read before'; 0 by the template 'total and deterministic' (their statements: Qxb6605900aTotals.lean).
  GIVEN WITH THE SEED: the statements are not yours to turn. If you find one false, say at which input.
  Laid BY PROGRAM, IN A SANDBOX (cutbox-rows.mjs): the forced cells as the released guide's own fill.sh prints them over the translation 36a937915b0c3bf2… (all of the seat's roots in one cut). By AI agents, Wed Nov 11 2026. No macro, syntax, notation, axiom, sorry.
-/
import Derived.Test.Qxb6605900aChecked
import GoSem.Claim
import GoSem.ClaimJoined
import GoSem.ClaimMapViews
import Derived.JoinedTies
import Derived.KernelRfl
namespace Go.Proofs.Qxb6605900a
/- THE CELL 'sum', in the pinned program and in every row, IS THE sha256 OF THE DUMP (.gsa) THAT Qxb6605900aProg.lean LOADS. Nothing in Lean hashes anything: it is a label: what it is worth is what the hold of that sum in a sandbox is worth. -/
noncomputable def Try.pinned : Pinned := { name := "qxb6605900a", sum := "36a937915b0c3bf2f06a8f5b7ecf2d8cba17b95b63a33f95f483298fd6081ee7", checked := Try.checked }
namespace Rows
def none {H : Type} : Left H := { results := [], args := [] }

/-- 'zzlaws_internal_consensus_b1.FnLeadersNamedFirstNamingsInOrder': WHATEVER THE INPUT: true; the input reads as it did. -/
def fnLeadersNamedFirstNamingsInOrderSpec : ChangeSpec := { name := "fnLeadersNamedFirstNamingsInOrder", fn := fun _ => fun
  | [d] => { results := [.lit (.bool true)], args := [d] }
  | _ => none }
def fnLeadersNamedFirstNamingsInOrderRow : OpenClaim := { program := "qxb6605900a", sum := "36a937915b0c3bf2f06a8f5b7ecf2d8cba17b95b63a33f95f483298fd6081ee7", func := "example.com/quorumlog/quorumlog/zzlaws_internal_consensus_b1.FnLeadersNamedFirstNamingsInOrder", spec := "fnLeadersNamedFirstNamingsInOrder", apart := false }
def FnLeadersNamedFirstNamingsInOrderSaid : Prop := fnLeadersNamedFirstNamingsInOrderRow.holds Try.pinned (OpenSpec.ofChange fnLeadersNamedFirstNamingsInOrderSpec)

/-- ITS FALSE NEIGHBOUR: 'it returns false'. Refute it at one input. -/
def fnLeadersNamedFirstNamingsInOrderWrong : ChangeSpec := { name := "fnLeadersNamedFirstNamingsInOrder", fn := fun _ => fun
  | [d] => { results := [.lit (.bool false)], args := [d] }
  | _ => none }
def FnLeadersNamedFirstNamingsInOrderWrongFalsely : Prop := fnLeadersNamedFirstNamingsInOrderRow.holds Try.pinned (OpenSpec.ofChange fnLeadersNamedFirstNamingsInOrderWrong)

/-- 'zzlaws_internal_consensus_b1.FnLeadersNamedCountsDistinctLeadersAndIsAFixpoint': WHATEVER THE INPUT: true; the input reads as it did. -/
def fnLeadersNamedCountsDistinctLeadersAndIsAFixpointSpec : ChangeSpec := { name := "fnLeadersNamedCountsDistinctLeadersAndIsAFixpoint", fn := fun _ => fun
  | [d] => { results := [.lit (.bool true)], args := [d] }
  | _ => none }
def fnLeadersNamedCountsDistinctLeadersAndIsAFixpointRow : OpenClaim := { program := "qxb6605900a", sum := "36a937915b0c3bf2f06a8f5b7ecf2d8cba17b95b63a33f95f483298fd6081ee7", func := "example.com/quorumlog/quorumlog/zzlaws_internal_consensus_b1.FnLeadersNamedCountsDistinctLeadersAndIsAFixpoint", spec := "fnLeadersNamedCountsDistinctLeadersAndIsAFixpoint", apart := false }
def FnLeadersNamedCountsDistinctLeadersAndIsAFixpointSaid : Prop := fnLeadersNamedCountsDistinctLeadersAndIsAFixpointRow.holds Try.pinned (OpenSpec.ofChange fnLeadersNamedCountsDistinctLeadersAndIsAFixpointSpec)

/-- ITS FALSE NEIGHBOUR: 'it returns false'. Refute it at one input. -/
def fnLeadersNamedCountsDistinctLeadersAndIsAFixpointWrong : ChangeSpec := { name := "fnLeadersNamedCountsDistinctLeadersAndIsAFixpoint", fn := fun _ => fun
  | [d] => { results := [.lit (.bool false)], args := [d] }
  | _ => none }
def FnLeadersNamedCountsDistinctLeadersAndIsAFixpointWrongFalsely : Prop := fnLeadersNamedCountsDistinctLeadersAndIsAFixpointRow.holds Try.pinned (OpenSpec.ofChange fnLeadersNamedCountsDistinctLeadersAndIsAFixpointWrong)

/-- 'zzlaws_internal_consensus_b1.FnNextAskMeetsEveryDeadlineAndNoLater': WHATEVER THE INPUT: true; the input reads as it did. -/
def fnNextAskMeetsEveryDeadlineAndNoLaterSpec : ChangeSpec := { name := "fnNextAskMeetsEveryDeadlineAndNoLater", fn := fun _ => fun
  | [d1, d2, d3, d4, d5, d6, d7] => { results := [.lit (.bool true)], args := [d1, d2, d3, d4, d5, d6, d7] }
  | _ => none }
def fnNextAskMeetsEveryDeadlineAndNoLaterRow : OpenClaim := { program := "qxb6605900a", sum := "36a937915b0c3bf2f06a8f5b7ecf2d8cba17b95b63a33f95f483298fd6081ee7", func := "example.com/quorumlog/quorumlog/zzlaws_internal_consensus_b1.FnNextAskMeetsEveryDeadlineAndNoLater", spec := "fnNextAskMeetsEveryDeadlineAndNoLater", apart := false }
def FnNextAskMeetsEveryDeadlineAndNoLaterSaid : Prop := fnNextAskMeetsEveryDeadlineAndNoLaterRow.holds Try.pinned (OpenSpec.ofChange fnNextAskMeetsEveryDeadlineAndNoLaterSpec)

/-- ITS FALSE NEIGHBOUR: 'it returns false'. Refute it at one input. -/
def fnNextAskMeetsEveryDeadlineAndNoLaterWrong : ChangeSpec := { name := "fnNextAskMeetsEveryDeadlineAndNoLater", fn := fun _ => fun
  | [d1, d2, d3, d4, d5, d6, d7] => { results := [.lit (.bool false)], args := [d1, d2, d3, d4, d5, d6, d7] }
  | _ => none }
def FnNextAskMeetsEveryDeadlineAndNoLaterWrongFalsely : Prop := fnNextAskMeetsEveryDeadlineAndNoLaterRow.holds Try.pinned (OpenSpec.ofChange fnNextAskMeetsEveryDeadlineAndNoLaterWrong)

/-- 'zzlaws_internal_consensus_b1.FnNextAskShiftsWithTheClock': WHATEVER THE INPUT: true; the input reads as it did. -/
def fnNextAskShiftsWithTheClockSpec : ChangeSpec := { name := "fnNextAskShiftsWithTheClock", fn := fun _ => fun
  | [d1, d2, d3, d4, d5, d6, d7, d8] => { results := [.lit (.bool true)], args := [d1, d2, d3, d4, d5, d6, d7, d8] }
  | _ => none }
def fnNextAskShiftsWithTheClockRow : OpenClaim := { program := "qxb6605900a", sum := "36a937915b0c3bf2f06a8f5b7ecf2d8cba17b95b63a33f95f483298fd6081ee7", func := "example.com/quorumlog/quorumlog/zzlaws_internal_consensus_b1.FnNextAskShiftsWithTheClock", spec := "fnNextAskShiftsWithTheClock", apart := false }
def FnNextAskShiftsWithTheClockSaid : Prop := fnNextAskShiftsWithTheClockRow.holds Try.pinned (OpenSpec.ofChange fnNextAskShiftsWithTheClockSpec)

/-- ITS FALSE NEIGHBOUR: 'it returns false'. Refute it at one input. -/
def fnNextAskShiftsWithTheClockWrong : ChangeSpec := { name := "fnNextAskShiftsWithTheClock", fn := fun _ => fun
  | [d1, d2, d3, d4, d5, d6, d7, d8] => { results := [.lit (.bool false)], args := [d1, d2, d3, d4, d5, d6, d7, d8] }
  | _ => none }
def FnNextAskShiftsWithTheClockWrongFalsely : Prop := fnNextAskShiftsWithTheClockRow.holds Try.pinned (OpenSpec.ofChange fnNextAskShiftsWithTheClockWrong)

/-- 'zzlaws_internal_consensus_b1.FnStandForgetsPriorVoteLeaderAndRole': WHATEVER THE INPUT: true; the input reads as it did. -/
def fnStandForgetsPriorVoteLeaderAndRoleSpec : ChangeSpec := { name := "fnStandForgetsPriorVoteLeaderAndRole", fn := fun _ => fun
  | [d1, d2, d3, d4, d5, d6, d7, d8, d9, d10] => { results := [.lit (.bool true)], args := [d1, d2, d3, d4, d5, d6, d7, d8, d9, d10] }
  | _ => none }
def fnStandForgetsPriorVoteLeaderAndRoleRow : OpenClaim := { program := "qxb6605900a", sum := "36a937915b0c3bf2f06a8f5b7ecf2d8cba17b95b63a33f95f483298fd6081ee7", func := "example.com/quorumlog/quorumlog/zzlaws_internal_consensus_b1.FnStandForgetsPriorVoteLeaderAndRole", spec := "fnStandForgetsPriorVoteLeaderAndRole", apart := false }
def FnStandForgetsPriorVoteLeaderAndRoleSaid : Prop := fnStandForgetsPriorVoteLeaderAndRoleRow.holds Try.pinned (OpenSpec.ofChange fnStandForgetsPriorVoteLeaderAndRoleSpec)

/-- ITS FALSE NEIGHBOUR: 'it returns false'. Refute it at one input. -/
def fnStandForgetsPriorVoteLeaderAndRoleWrong : ChangeSpec := { name := "fnStandForgetsPriorVoteLeaderAndRole", fn := fun _ => fun
  | [d1, d2, d3, d4, d5, d6, d7, d8, d9, d10] => { results := [.lit (.bool false)], args := [d1, d2, d3, d4, d5, d6, d7, d8, d9, d10] }
  | _ => none }
def FnStandForgetsPriorVoteLeaderAndRoleWrongFalsely : Prop := fnStandForgetsPriorVoteLeaderAndRoleRow.holds Try.pinned (OpenSpec.ofChange fnStandForgetsPriorVoteLeaderAndRoleWrong)

end Rows
end Go.Proofs.Qxb6605900a
