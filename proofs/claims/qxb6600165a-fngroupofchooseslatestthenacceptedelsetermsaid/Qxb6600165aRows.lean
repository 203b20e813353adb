/-
  No cell of these rows narrows 'for every input' (looked for: loops, veiled, ifaces, maps, wideKeys, modest, calm, conditions, laid).
  DERIVED. THE GIVEN ROWS OF THIS SEAT. 4 by the template 'for every input the law returns true; each argument reads behind the call as it read before'; 0 by the template 'total and deterministic' (their statements: Qxb6600165aTotals.lean).
  GIVEN WITH THE SEED: the statements are not yours to turn. If you find one false, say at which input.
  Laid BY PROGRAM, IN A SANDBOX (cutbox-rows.mjs): the forced cells as the released guide's own fill.sh prints them over the translation a51bc97c6275ef2c… (all of the seat's roots in one cut). By AI agents, Wed Nov 11 2026. No macro, syntax, notation, axiom, sorry.
-/
import Derived.Test.Qxb6600165aChecked
import GoSem.Claim
import GoSem.ClaimJoined
import GoSem.ClaimMapViews
import Derived.JoinedTies
import Derived.KernelRfl
namespace Go.Proofs.Qxb6600165a
/- THE CELL 'sum', in the pinned program and in every row, IS THE sha256 OF THE DUMP (.gsa) THAT Qxb6600165aProg.lean LOADS. Nothing in Lean hashes anything: it is a label: what it is worth is what the hold of that sum in a sandbox is worth. -/
noncomputable def Try.pinned : Pinned := { name := "qxb6600165a", sum := "a51bc97c6275ef2c9c425c3107b5821278cb23706b8804d53df7ca4b2a71a4a8", checked := Try.checked }
namespace Rows
def none {H : Type} : Left H := { results := [], args := [] }

/-- 'zzlaws_internal_protocol_b1.FnGroupOfChoosesLatestThenAcceptedElseTerm': WHATEVER THE INPUT: true; the input reads as it did. -/
def fnGroupOfChoosesLatestThenAcceptedElseTermSpec : ChangeSpec := { name := "fnGroupOfChoosesLatestThenAcceptedElseTerm", fn := fun _ => fun
  | [d1, d2] => { results := [.lit (.bool true)], args := [d1, d2] }
  | _ => none }
def fnGroupOfChoosesLatestThenAcceptedElseTermRow : OpenClaim := { program := "qxb6600165a", sum := "a51bc97c6275ef2c9c425c3107b5821278cb23706b8804d53df7ca4b2a71a4a8", func := "example.com/quorumlog/quorumlog/zzlaws_internal_protocol_b1.FnGroupOfChoosesLatestThenAcceptedElseTerm", spec := "fnGroupOfChoosesLatestThenAcceptedElseTerm", apart := false }
def FnGroupOfChoosesLatestThenAcceptedElseTermSaid : Prop := fnGroupOfChoosesLatestThenAcceptedElseTermRow.holds Try.pinned (OpenSpec.ofChange fnGroupOfChoosesLatestThenAcceptedElseTermSpec)

/-- ITS FALSE NEIGHBOUR: 'it returns false'. Refute it at one input. -/
def fnGroupOfChoosesLatestThenAcceptedElseTermWrong : ChangeSpec := { name := "fnGroupOfChoosesLatestThenAcceptedElseTerm", fn := fun _ => fun
  | [d1, d2] => { results := [.lit (.bool false)], args := [d1, d2] }
  | _ => none }
def FnGroupOfChoosesLatestThenAcceptedElseTermWrongFalsely : Prop := fnGroupOfChoosesLatestThenAcceptedElseTermRow.holds Try.pinned (OpenSpec.ofChange fnGroupOfChoosesLatestThenAcceptedElseTermWrong)

/-- 'zzlaws_internal_protocol_b1.FnGroupOfIgnoresUnrecordedAnswers': WHATEVER THE INPUT: true; the input reads as it did. -/
def fnGroupOfIgnoresUnrecordedAnswersSpec : ChangeSpec := { name := "fnGroupOfIgnoresUnrecordedAnswers", fn := fun _ => fun
  | [d1, d2] => { results := [.lit (.bool true)], args := [d1, d2] }
  | _ => none }
def fnGroupOfIgnoresUnrecordedAnswersRow : OpenClaim := { program := "qxb6600165a", sum := "a51bc97c6275ef2c9c425c3107b5821278cb23706b8804d53df7ca4b2a71a4a8", func := "example.com/quorumlog/quorumlog/zzlaws_internal_protocol_b1.FnGroupOfIgnoresUnrecordedAnswers", spec := "fnGroupOfIgnoresUnrecordedAnswers", apart := false }
def FnGroupOfIgnoresUnrecordedAnswersSaid : Prop := fnGroupOfIgnoresUnrecordedAnswersRow.holds Try.pinned (OpenSpec.ofChange fnGroupOfIgnoresUnrecordedAnswersSpec)

/-- ITS FALSE NEIGHBOUR: 'it returns false'. Refute it at one input. -/
def fnGroupOfIgnoresUnrecordedAnswersWrong : ChangeSpec := { name := "fnGroupOfIgnoresUnrecordedAnswers", fn := fun _ => fun
  | [d1, d2] => { results := [.lit (.bool false)], args := [d1, d2] }
  | _ => none }
def FnGroupOfIgnoresUnrecordedAnswersWrongFalsely : Prop := fnGroupOfIgnoresUnrecordedAnswersRow.holds Try.pinned (OpenSpec.ofChange fnGroupOfIgnoresUnrecordedAnswersWrong)

/-- 'zzlaws_internal_protocol_b1.FnMayCreateOrderFree': WHATEVER THE INPUT: true; the input reads as it did. -/
def fnMayCreateOrderFreeSpec : ChangeSpec := { name := "fnMayCreateOrderFree", fn := fun _ => fun
  | [d1, d2] => { results := [.lit (.bool true)], args := [d1, d2] }
  | _ => none }
def fnMayCreateOrderFreeRow : OpenClaim := { program := "qxb6600165a", sum := "a51bc97c6275ef2c9c425c3107b5821278cb23706b8804d53df7ca4b2a71a4a8", func := "example.com/quorumlog/quorumlog/zzlaws_internal_protocol_b1.FnMayCreateOrderFree", spec := "fnMayCreateOrderFree", apart := false }
def FnMayCreateOrderFreeSaid : Prop := fnMayCreateOrderFreeRow.holds Try.pinned (OpenSpec.ofChange fnMayCreateOrderFreeSpec)

/-- ITS FALSE NEIGHBOUR: 'it returns false'. Refute it at one input. -/
def fnMayCreateOrderFreeWrong : ChangeSpec := { name := "fnMayCreateOrderFree", fn := fun _ => fun
  | [d1, d2] => { results := [.lit (.bool false)], args := [d1, d2] }
  | _ => none }
def FnMayCreateOrderFreeWrongFalsely : Prop := fnMayCreateOrderFreeRow.holds Try.pinned (OpenSpec.ofChange fnMayCreateOrderFreeWrong)

/-- 'zzlaws_internal_protocol_b1.FnMayCreateSilentCountsAsEmptied': WHATEVER THE INPUT: true; the input reads as it did. -/
def fnMayCreateSilentCountsAsEmptiedSpec : ChangeSpec := { name := "fnMayCreateSilentCountsAsEmptied", fn := fun _ => fun
  | [d1, d2] => { results := [.lit (.bool true)], args := [d1, d2] }
  | _ => none }
def fnMayCreateSilentCountsAsEmptiedRow : OpenClaim := { program := "qxb6600165a", sum := "a51bc97c6275ef2c9c425c3107b5821278cb23706b8804d53df7ca4b2a71a4a8", func := "example.com/quorumlog/quorumlog/zzlaws_internal_protocol_b1.FnMayCreateSilentCountsAsEmptied", spec := "fnMayCreateSilentCountsAsEmptied", apart := false }
def FnMayCreateSilentCountsAsEmptiedSaid : Prop := fnMayCreateSilentCountsAsEmptiedRow.holds Try.pinned (OpenSpec.ofChange fnMayCreateSilentCountsAsEmptiedSpec)

/-- ITS FALSE NEIGHBOUR: 'it returns false'. Refute it at one input. -/
def fnMayCreateSilentCountsAsEmptiedWrong : ChangeSpec := { name := "fnMayCreateSilentCountsAsEmptied", fn := fun _ => fun
  | [d1, d2] => { results := [.lit (.bool false)], args := [d1, d2] }
  | _ => none }
def FnMayCreateSilentCountsAsEmptiedWrongFalsely : Prop := fnMayCreateSilentCountsAsEmptiedRow.holds Try.pinned (OpenSpec.ofChange fnMayCreateSilentCountsAsEmptiedWrong)

end Rows
end Go.Proofs.Qxb6600165a
