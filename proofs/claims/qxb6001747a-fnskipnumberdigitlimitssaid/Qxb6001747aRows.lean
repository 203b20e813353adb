/-
  No cell of these rows narrows 'for every input' (looked for: loops, veiled, ifaces, maps, wideKeys, modest, calm, conditions, laid).
  DERIVED. THE GIVEN ROWS OF THIS SEAT. 5 by the template 'for every input the law returns true; each argument reads behind the call as it read before'; 0 by the template 'total and deterministic' (their statements: Qxb6001747aTotals.lean).
  GIVEN WITH THE SEED: the statements are not yours to turn. If you find one false, say at which input.
  Laid BY PROGRAM, IN A SANDBOX (cutbox-rows.mjs): the forced cells as the released guide's own fill.sh prints them over the translation 5c14ac9e423d48e0… (all of the seat's roots in one cut). By AI agents, Wed Nov 11 2026. No macro, syntax, notation, axiom, sorry.
-/
import Derived.Test.Qxb6001747aChecked
import GoSem.Claim
import GoSem.ClaimJoined
import GoSem.ClaimMapViews
import Derived.JoinedTies
import Derived.KernelRfl
namespace Go.Proofs.Qxb6001747a
/- THE CELL 'sum', in the pinned program and in every row, IS THE sha256 OF THE DUMP (.gsa) THAT Qxb6001747aProg.lean LOADS. Nothing in Lean hashes anything: it is a label: what it is worth is what the hold of that sum in a sandbox is worth. -/
noncomputable def Try.pinned : Pinned := { name := "qxb6001747a", sum := "5c14ac9e423d48e0dd254b65fbffca359a6d05c1d2bcdaf08abbda56528cfde8", checked := Try.checked }
namespace Rows
def none {H : Type} : Left H := { results := [], args := [] }

/-- 'zzlaws_root_e1.FnSkipNumberConsumesOneMaximalNumber': WHATEVER THE INPUT: true; the input reads as it did. -/
def fnSkipNumberConsumesOneMaximalNumberSpec : ChangeSpec := { name := "fnSkipNumberConsumesOneMaximalNumber", fn := fun _ => fun
  | [d] => { results := [.lit (.bool true)], args := [d] }
  | _ => none }
def fnSkipNumberConsumesOneMaximalNumberRow : OpenClaim := { program := "qxb6001747a", sum := "5c14ac9e423d48e0dd254b65fbffca359a6d05c1d2bcdaf08abbda56528cfde8", func := "example.com/onceguard/onceguard/zzlaws_root_e1.FnSkipNumberConsumesOneMaximalNumber", spec := "fnSkipNumberConsumesOneMaximalNumber", apart := false }
def FnSkipNumberConsumesOneMaximalNumberSaid : Prop := fnSkipNumberConsumesOneMaximalNumberRow.holds Try.pinned (OpenSpec.ofChange fnSkipNumberConsumesOneMaximalNumberSpec)

/-- ITS FALSE NEIGHBOUR: 'it returns false'. Refute it at one input. -/
def fnSkipNumberConsumesOneMaximalNumberWrong : ChangeSpec := { name := "fnSkipNumberConsumesOneMaximalNumber", fn := fun _ => fun
  | [d] => { results := [.lit (.bool false)], args := [d] }
  | _ => none }
def FnSkipNumberConsumesOneMaximalNumberWrongFalsely : Prop := fnSkipNumberConsumesOneMaximalNumberRow.holds Try.pinned (OpenSpec.ofChange fnSkipNumberConsumesOneMaximalNumberWrong)

/-- 'zzlaws_root_e1.FnSkipNumberIgnoresWhatFollows': WHATEVER THE INPUT: true; the input reads as it did. -/
def fnSkipNumberIgnoresWhatFollowsSpec : ChangeSpec := { name := "fnSkipNumberIgnoresWhatFollows", fn := fun _ => fun
  | [d1, d2] => { results := [.lit (.bool true)], args := [d1, d2] }
  | _ => none }
def fnSkipNumberIgnoresWhatFollowsRow : OpenClaim := { program := "qxb6001747a", sum := "5c14ac9e423d48e0dd254b65fbffca359a6d05c1d2bcdaf08abbda56528cfde8", func := "example.com/onceguard/onceguard/zzlaws_root_e1.FnSkipNumberIgnoresWhatFollows", spec := "fnSkipNumberIgnoresWhatFollows", apart := false }
def FnSkipNumberIgnoresWhatFollowsSaid : Prop := fnSkipNumberIgnoresWhatFollowsRow.holds Try.pinned (OpenSpec.ofChange fnSkipNumberIgnoresWhatFollowsSpec)

/-- ITS FALSE NEIGHBOUR: 'it returns false'. Refute it at one input. -/
def fnSkipNumberIgnoresWhatFollowsWrong : ChangeSpec := { name := "fnSkipNumberIgnoresWhatFollows", fn := fun _ => fun
  | [d1, d2] => { results := [.lit (.bool false)], args := [d1, d2] }
  | _ => none }
def FnSkipNumberIgnoresWhatFollowsWrongFalsely : Prop := fnSkipNumberIgnoresWhatFollowsRow.holds Try.pinned (OpenSpec.ofChange fnSkipNumberIgnoresWhatFollowsWrong)

/-- 'zzlaws_root_e1.FnSkipNumberDigitLimits': WHATEVER THE INPUT: true; the input reads as it did. -/
def fnSkipNumberDigitLimitsSpec : ChangeSpec := { name := "fnSkipNumberDigitLimits", fn := fun _ => fun
  | [d1, d2, d3, d4] => { results := [.lit (.bool true)], args := [d1, d2, d3, d4] }
  | _ => none }
def fnSkipNumberDigitLimitsRow : OpenClaim := { program := "qxb6001747a", sum := "5c14ac9e423d48e0dd254b65fbffca359a6d05c1d2bcdaf08abbda56528cfde8", func := "example.com/onceguard/onceguard/zzlaws_root_e1.FnSkipNumberDigitLimits", spec := "fnSkipNumberDigitLimits", apart := false }
def FnSkipNumberDigitLimitsSaid : Prop := fnSkipNumberDigitLimitsRow.holds Try.pinned (OpenSpec.ofChange fnSkipNumberDigitLimitsSpec)

/-- ITS FALSE NEIGHBOUR: 'it returns false'. Refute it at one input. -/
def fnSkipNumberDigitLimitsWrong : ChangeSpec := { name := "fnSkipNumberDigitLimits", fn := fun _ => fun
  | [d1, d2, d3, d4] => { results := [.lit (.bool false)], args := [d1, d2, d3, d4] }
  | _ => none }
def FnSkipNumberDigitLimitsWrongFalsely : Prop := fnSkipNumberDigitLimitsRow.holds Try.pinned (OpenSpec.ofChange fnSkipNumberDigitLimitsWrong)

/-- 'zzlaws_root_e1.FnHeaderFromPairsRefusesOnlyOddCounts': WHATEVER THE INPUT: true; the input reads as it did. -/
def fnHeaderFromPairsRefusesOnlyOddCountsSpec : ChangeSpec := { name := "fnHeaderFromPairsRefusesOnlyOddCounts", fn := fun _ => fun
  | [d] => { results := [.lit (.bool true)], args := [d] }
  | _ => none }
def fnHeaderFromPairsRefusesOnlyOddCountsRow : OpenClaim := { program := "qxb6001747a", sum := "5c14ac9e423d48e0dd254b65fbffca359a6d05c1d2bcdaf08abbda56528cfde8", func := "example.com/onceguard/onceguard/zzlaws_root_e1.FnHeaderFromPairsRefusesOnlyOddCounts", spec := "fnHeaderFromPairsRefusesOnlyOddCounts", apart := false }
def FnHeaderFromPairsRefusesOnlyOddCountsSaid : Prop := fnHeaderFromPairsRefusesOnlyOddCountsRow.holds Try.pinned (OpenSpec.ofChange fnHeaderFromPairsRefusesOnlyOddCountsSpec)

/-- ITS FALSE NEIGHBOUR: 'it returns false'. Refute it at one input. -/
def fnHeaderFromPairsRefusesOnlyOddCountsWrong : ChangeSpec := { name := "fnHeaderFromPairsRefusesOnlyOddCounts", fn := fun _ => fun
  | [d] => { results := [.lit (.bool false)], args := [d] }
  | _ => none }
def FnHeaderFromPairsRefusesOnlyOddCountsWrongFalsely : Prop := fnHeaderFromPairsRefusesOnlyOddCountsRow.holds Try.pinned (OpenSpec.ofChange fnHeaderFromPairsRefusesOnlyOddCountsWrong)

/-- 'zzlaws_root_e1.FnHeaderFromPairsGroupsValues': WHATEVER THE INPUT: true; the input reads as it did. -/
def fnHeaderFromPairsGroupsValuesSpec : ChangeSpec := { name := "fnHeaderFromPairsGroupsValues", fn := fun _ => fun
  | [d] => { results := [.lit (.bool true)], args := [d] }
  | _ => none }
def fnHeaderFromPairsGroupsValuesRow : OpenClaim := { program := "qxb6001747a", sum := "5c14ac9e423d48e0dd254b65fbffca359a6d05c1d2bcdaf08abbda56528cfde8", func := "example.com/onceguard/onceguard/zzlaws_root_e1.FnHeaderFromPairsGroupsValues", spec := "fnHeaderFromPairsGroupsValues", apart := false }
def FnHeaderFromPairsGroupsValuesSaid : Prop := fnHeaderFromPairsGroupsValuesRow.holds Try.pinned (OpenSpec.ofChange fnHeaderFromPairsGroupsValuesSpec)

/-- ITS FALSE NEIGHBOUR: 'it returns false'. Refute it at one input. -/
def fnHeaderFromPairsGroupsValuesWrong : ChangeSpec := { name := "fnHeaderFromPairsGroupsValues", fn := fun _ => fun
  | [d] => { results := [.lit (.bool false)], args := [d] }
  | _ => none }
def FnHeaderFromPairsGroupsValuesWrongFalsely : Prop := fnHeaderFromPairsGroupsValuesRow.holds Try.pinned (OpenSpec.ofChange fnHeaderFromPairsGroupsValuesWrong)

end Rows
end Go.Proofs.Qxb6001747a
