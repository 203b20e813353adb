/-
  No cell of these rows narrows 'for every input' (looked for: loops, veiled, ifaces, maps, wideKeys, modest, calm, conditions, laid).
  DERIVED. THE GIVEN ROWS OF THIS SEAT. 3 by the template 'for every input the law returns true; each argument reads behind the call as it read before'; 0 by the template 'total and deterministic' (their statements: Qxb6600187aTotals.lean).
  GIVEN WITH THE SEED: the statements are not yours to turn. If you find one false, say at which input.
  Laid BY PROGRAM, IN A SANDBOX (cutbox-rows.mjs): the forced cells as the released guide's own fill.sh prints them over the translation 32740c005fdbfcd4… (all of the seat's roots in one cut). By AI agents, Wed Nov 11 2026. No macro, syntax, notation, axiom, sorry.
-/
import Derived.Test.Qxb6600187aChecked
import GoSem.Claim
import GoSem.ClaimJoined
import GoSem.ClaimMapViews
import Derived.JoinedTies
import Derived.KernelRfl
namespace Go.Proofs.Qxb6600187a
/- THE CELL 'sum', in the pinned program and in every row, IS THE sha256 OF THE DUMP (.gsa) THAT Qxb6600187aProg.lean LOADS. Nothing in Lean hashes anything: it is a label: what it is worth is what the hold of that sum in a sandbox is worth. -/
noncomputable def Try.pinned : Pinned := { name := "qxb6600187a", sum := "32740c005fdbfcd4b1df3e51ec8c01665d5cddf5cfde5c4a6500b7f934d959f4", checked := Try.checked }
namespace Rows
def none {H : Type} : Left H := { results := [], args := [] }

/-- 'zzlaws_jwt_b1.FnAsn1SignatureIsDER': WHATEVER THE INPUT: true; the input reads as it did. -/
def fnAsn1SignatureIsDERSpec : ChangeSpec := { name := "fnAsn1SignatureIsDER", fn := fun _ => fun
  | [d] => { results := [.lit (.bool true)], args := [d] }
  | _ => none }
def fnAsn1SignatureIsDERRow : OpenClaim := { program := "qxb6600187a", sum := "32740c005fdbfcd4b1df3e51ec8c01665d5cddf5cfde5c4a6500b7f934d959f4", func := "example.com/batonpass/batonpass/zzlaws_jwt_b1.FnAsn1SignatureIsDER", spec := "fnAsn1SignatureIsDER", apart := false }
def FnAsn1SignatureIsDERSaid : Prop := fnAsn1SignatureIsDERRow.holds Try.pinned (OpenSpec.ofChange fnAsn1SignatureIsDERSpec)

/-- ITS FALSE NEIGHBOUR: 'it returns false'. Refute it at one input. -/
def fnAsn1SignatureIsDERWrong : ChangeSpec := { name := "fnAsn1SignatureIsDER", fn := fun _ => fun
  | [d] => { results := [.lit (.bool false)], args := [d] }
  | _ => none }
def FnAsn1SignatureIsDERWrongFalsely : Prop := fnAsn1SignatureIsDERRow.holds Try.pinned (OpenSpec.ofChange fnAsn1SignatureIsDERWrong)

/-- 'zzlaws_jwt_b1.FnAsn1SignatureInjective': WHATEVER THE INPUT: true; the input reads as it did. -/
def fnAsn1SignatureInjectiveSpec : ChangeSpec := { name := "fnAsn1SignatureInjective", fn := fun _ => fun
  | [d1, d2] => { results := [.lit (.bool true)], args := [d1, d2] }
  | _ => none }
def fnAsn1SignatureInjectiveRow : OpenClaim := { program := "qxb6600187a", sum := "32740c005fdbfcd4b1df3e51ec8c01665d5cddf5cfde5c4a6500b7f934d959f4", func := "example.com/batonpass/batonpass/zzlaws_jwt_b1.FnAsn1SignatureInjective", spec := "fnAsn1SignatureInjective", apart := false }
def FnAsn1SignatureInjectiveSaid : Prop := fnAsn1SignatureInjectiveRow.holds Try.pinned (OpenSpec.ofChange fnAsn1SignatureInjectiveSpec)

/-- ITS FALSE NEIGHBOUR: 'it returns false'. Refute it at one input. -/
def fnAsn1SignatureInjectiveWrong : ChangeSpec := { name := "fnAsn1SignatureInjective", fn := fun _ => fun
  | [d1, d2] => { results := [.lit (.bool false)], args := [d1, d2] }
  | _ => none }
def FnAsn1SignatureInjectiveWrongFalsely : Prop := fnAsn1SignatureInjectiveRow.holds Try.pinned (OpenSpec.ofChange fnAsn1SignatureInjectiveWrong)

/-- 'zzlaws_jwt_b1.FnEscapeEndLocal': WHATEVER THE INPUT: true; the input reads as it did. -/
def fnEscapeEndLocalSpec : ChangeSpec := { name := "fnEscapeEndLocal", fn := fun _ => fun
  | [d1, d2, d3] => { results := [.lit (.bool true)], args := [d1, d2, d3] }
  | _ => none }
def fnEscapeEndLocalRow : OpenClaim := { program := "qxb6600187a", sum := "32740c005fdbfcd4b1df3e51ec8c01665d5cddf5cfde5c4a6500b7f934d959f4", func := "example.com/batonpass/batonpass/zzlaws_jwt_b1.FnEscapeEndLocal", spec := "fnEscapeEndLocal", apart := false }
def FnEscapeEndLocalSaid : Prop := fnEscapeEndLocalRow.holds Try.pinned (OpenSpec.ofChange fnEscapeEndLocalSpec)

/-- ITS FALSE NEIGHBOUR: 'it returns false'. Refute it at one input. -/
def fnEscapeEndLocalWrong : ChangeSpec := { name := "fnEscapeEndLocal", fn := fun _ => fun
  | [d1, d2, d3] => { results := [.lit (.bool false)], args := [d1, d2, d3] }
  | _ => none }
def FnEscapeEndLocalWrongFalsely : Prop := fnEscapeEndLocalRow.holds Try.pinned (OpenSpec.ofChange fnEscapeEndLocalWrong)

end Rows
end Go.Proofs.Qxb6600187a
