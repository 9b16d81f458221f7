/-
  No cell of these rows narrows 'for every input' (looked for: loops, veiled, ifaces, maps, wideKeys, modest, calm, conditions, laid).
  DERIVED. THE GIVEN ROWS OF THIS SEAT. 6 by the template 'for every input the law returns true; each argument reads behind the call as it read before'; 0 by the template 'total and deterministic' (their statements: Qxb6001436aTotals.lean).
  GIVEN WITH THE SEED: the statements are not yours to turn. If you find one false, say at which input.
  Laid BY PROGRAM, IN A SANDBOX (cutbox-rows.mjs): the forced cells as the released guide's own fill.sh prints them over the translation db0716e30292c4c6… (all of the seat's roots in one cut). By AI agents, Wed Nov 11 2026. No macro, syntax, notation, axiom, sorry.
-/
import Derived.Test.Qxb6001436aChecked
import GoSem.Claim
import GoSem.ClaimJoined
import GoSem.ClaimMapViews
import Derived.JoinedTies
import Derived.KernelRfl
namespace Go.Proofs.Qxb6001436a
/- THE CELL 'sum', in the pinned program and in every row, IS THE sha256 OF THE DUMP (.gsa) THAT Qxb6001436aProg.lean LOADS. Nothing in Lean hashes anything: it is a label: what it is worth is what the hold of that sum in a sandbox is worth. -/
noncomputable def Try.pinned : Pinned := { name := "qxb6001436a", sum := "db0716e30292c4c67f08e388bc920a2952c8de5b3a9b917687d9062cf484a242", checked := Try.checked }
namespace Rows
def none {H : Type} : Left H := { results := [], args := [] }

/-- 'zzlaws_ledger_b1.FnHasFormLiteralFormIsEquality': WHATEVER THE INPUT: true; the input reads as it did. -/
def fnHasFormLiteralFormIsEqualitySpec : ChangeSpec := { name := "fnHasFormLiteralFormIsEquality", fn := fun _ => fun
  | [d1, d2] => { results := [.lit (.bool true)], args := [d1, d2] }
  | _ => none }
def fnHasFormLiteralFormIsEqualityRow : OpenClaim := { program := "qxb6001436a", sum := "db0716e30292c4c67f08e388bc920a2952c8de5b3a9b917687d9062cf484a242", func := "example.com/tallyshare/tallyshare/zzlaws_ledger_b1.FnHasFormLiteralFormIsEquality", spec := "fnHasFormLiteralFormIsEquality", apart := false }
def FnHasFormLiteralFormIsEqualitySaid : Prop := fnHasFormLiteralFormIsEqualityRow.holds Try.pinned (OpenSpec.ofChange fnHasFormLiteralFormIsEqualitySpec)

/-- ITS FALSE NEIGHBOUR: 'it returns false'. Refute it at one input. -/
def fnHasFormLiteralFormIsEqualityWrong : ChangeSpec := { name := "fnHasFormLiteralFormIsEquality", fn := fun _ => fun
  | [d1, d2] => { results := [.lit (.bool false)], args := [d1, d2] }
  | _ => none }
def FnHasFormLiteralFormIsEqualityWrongFalsely : Prop := fnHasFormLiteralFormIsEqualityRow.holds Try.pinned (OpenSpec.ofChange fnHasFormLiteralFormIsEqualityWrong)

/-- 'zzlaws_ledger_b1.FnHasFormConcatenation': WHATEVER THE INPUT: true; the input reads as it did. -/
def fnHasFormConcatenationSpec : ChangeSpec := { name := "fnHasFormConcatenation", fn := fun _ => fun
  | [d1, d2, d3, d4] => { results := [.lit (.bool true)], args := [d1, d2, d3, d4] }
  | _ => none }
def fnHasFormConcatenationRow : OpenClaim := { program := "qxb6001436a", sum := "db0716e30292c4c67f08e388bc920a2952c8de5b3a9b917687d9062cf484a242", func := "example.com/tallyshare/tallyshare/zzlaws_ledger_b1.FnHasFormConcatenation", spec := "fnHasFormConcatenation", apart := false }
def FnHasFormConcatenationSaid : Prop := fnHasFormConcatenationRow.holds Try.pinned (OpenSpec.ofChange fnHasFormConcatenationSpec)

/-- ITS FALSE NEIGHBOUR: 'it returns false'. Refute it at one input. -/
def fnHasFormConcatenationWrong : ChangeSpec := { name := "fnHasFormConcatenation", fn := fun _ => fun
  | [d1, d2, d3, d4] => { results := [.lit (.bool false)], args := [d1, d2, d3, d4] }
  | _ => none }
def FnHasFormConcatenationWrongFalsely : Prop := fnHasFormConcatenationRow.holds Try.pinned (OpenSpec.ofChange fnHasFormConcatenationWrong)

/-- 'zzlaws_ledger_b1.FnHasFormGeneralisedFormStillMatches': WHATEVER THE INPUT: true; the input reads as it did. -/
def fnHasFormGeneralisedFormStillMatchesSpec : ChangeSpec := { name := "fnHasFormGeneralisedFormStillMatches", fn := fun _ => fun
  | [d1, d2] => { results := [.lit (.bool true)], args := [d1, d2] }
  | _ => none }
def fnHasFormGeneralisedFormStillMatchesRow : OpenClaim := { program := "qxb6001436a", sum := "db0716e30292c4c67f08e388bc920a2952c8de5b3a9b917687d9062cf484a242", func := "example.com/tallyshare/tallyshare/zzlaws_ledger_b1.FnHasFormGeneralisedFormStillMatches", spec := "fnHasFormGeneralisedFormStillMatches", apart := false }
def FnHasFormGeneralisedFormStillMatchesSaid : Prop := fnHasFormGeneralisedFormStillMatchesRow.holds Try.pinned (OpenSpec.ofChange fnHasFormGeneralisedFormStillMatchesSpec)

/-- ITS FALSE NEIGHBOUR: 'it returns false'. Refute it at one input. -/
def fnHasFormGeneralisedFormStillMatchesWrong : ChangeSpec := { name := "fnHasFormGeneralisedFormStillMatches", fn := fun _ => fun
  | [d1, d2] => { results := [.lit (.bool false)], args := [d1, d2] }
  | _ => none }
def FnHasFormGeneralisedFormStillMatchesWrongFalsely : Prop := fnHasFormGeneralisedFormStillMatchesRow.holds Try.pinned (OpenSpec.ofChange fnHasFormGeneralisedFormStillMatchesWrong)

/-- 'zzlaws_ledger_b1.FnReadOffsetFormatRoundTrip': WHATEVER THE INPUT: true; the input reads as it did. -/
def fnReadOffsetFormatRoundTripSpec : ChangeSpec := { name := "fnReadOffsetFormatRoundTrip", fn := fun _ => fun
  | [d1, d2, d3] => { results := [.lit (.bool true)], args := [d1, d2, d3] }
  | _ => none }
def fnReadOffsetFormatRoundTripRow : OpenClaim := { program := "qxb6001436a", sum := "db0716e30292c4c67f08e388bc920a2952c8de5b3a9b917687d9062cf484a242", func := "example.com/tallyshare/tallyshare/zzlaws_ledger_b1.FnReadOffsetFormatRoundTrip", spec := "fnReadOffsetFormatRoundTrip", apart := false }
def FnReadOffsetFormatRoundTripSaid : Prop := fnReadOffsetFormatRoundTripRow.holds Try.pinned (OpenSpec.ofChange fnReadOffsetFormatRoundTripSpec)

/-- ITS FALSE NEIGHBOUR: 'it returns false'. Refute it at one input. -/
def fnReadOffsetFormatRoundTripWrong : ChangeSpec := { name := "fnReadOffsetFormatRoundTrip", fn := fun _ => fun
  | [d1, d2, d3] => { results := [.lit (.bool false)], args := [d1, d2, d3] }
  | _ => none }
def FnReadOffsetFormatRoundTripWrongFalsely : Prop := fnReadOffsetFormatRoundTripRow.holds Try.pinned (OpenSpec.ofChange fnReadOffsetFormatRoundTripWrong)

/-- 'zzlaws_ledger_b1.FnReadOffsetAcceptsOnlyWhatItWritesBack': WHATEVER THE INPUT: true; the input reads as it did. -/
def fnReadOffsetAcceptsOnlyWhatItWritesBackSpec : ChangeSpec := { name := "fnReadOffsetAcceptsOnlyWhatItWritesBack", fn := fun _ => fun
  | [d] => { results := [.lit (.bool true)], args := [d] }
  | _ => none }
def fnReadOffsetAcceptsOnlyWhatItWritesBackRow : OpenClaim := { program := "qxb6001436a", sum := "db0716e30292c4c67f08e388bc920a2952c8de5b3a9b917687d9062cf484a242", func := "example.com/tallyshare/tallyshare/zzlaws_ledger_b1.FnReadOffsetAcceptsOnlyWhatItWritesBack", spec := "fnReadOffsetAcceptsOnlyWhatItWritesBack", apart := false }
def FnReadOffsetAcceptsOnlyWhatItWritesBackSaid : Prop := fnReadOffsetAcceptsOnlyWhatItWritesBackRow.holds Try.pinned (OpenSpec.ofChange fnReadOffsetAcceptsOnlyWhatItWritesBackSpec)

/-- ITS FALSE NEIGHBOUR: 'it returns false'. Refute it at one input. -/
def fnReadOffsetAcceptsOnlyWhatItWritesBackWrong : ChangeSpec := { name := "fnReadOffsetAcceptsOnlyWhatItWritesBack", fn := fun _ => fun
  | [d] => { results := [.lit (.bool false)], args := [d] }
  | _ => none }
def FnReadOffsetAcceptsOnlyWhatItWritesBackWrongFalsely : Prop := fnReadOffsetAcceptsOnlyWhatItWritesBackRow.holds Try.pinned (OpenSpec.ofChange fnReadOffsetAcceptsOnlyWhatItWritesBackWrong)

/-- 'zzlaws_ledger_b1.FnReadOffsetSignSymmetry': WHATEVER THE INPUT: true; the input reads as it did. -/
def fnReadOffsetSignSymmetrySpec : ChangeSpec := { name := "fnReadOffsetSignSymmetry", fn := fun _ => fun
  | [d] => { results := [.lit (.bool true)], args := [d] }
  | _ => none }
def fnReadOffsetSignSymmetryRow : OpenClaim := { program := "qxb6001436a", sum := "db0716e30292c4c67f08e388bc920a2952c8de5b3a9b917687d9062cf484a242", func := "example.com/tallyshare/tallyshare/zzlaws_ledger_b1.FnReadOffsetSignSymmetry", spec := "fnReadOffsetSignSymmetry", apart := false }
def FnReadOffsetSignSymmetrySaid : Prop := fnReadOffsetSignSymmetryRow.holds Try.pinned (OpenSpec.ofChange fnReadOffsetSignSymmetrySpec)

/-- ITS FALSE NEIGHBOUR: 'it returns false'. Refute it at one input. -/
def fnReadOffsetSignSymmetryWrong : ChangeSpec := { name := "fnReadOffsetSignSymmetry", fn := fun _ => fun
  | [d] => { results := [.lit (.bool false)], args := [d] }
  | _ => none }
def FnReadOffsetSignSymmetryWrongFalsely : Prop := fnReadOffsetSignSymmetryRow.holds Try.pinned (OpenSpec.ofChange fnReadOffsetSignSymmetryWrong)

end Rows
end Go.Proofs.Qxb6001436a
