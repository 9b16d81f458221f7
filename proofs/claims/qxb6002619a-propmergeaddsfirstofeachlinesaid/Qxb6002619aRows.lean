/-
  No cell of these rows narrows 'for every input' (looked for: loops, veiled, ifaces, maps, wideKeys, modest, calm, conditions, laid).
  DERIVED. THE GIVEN ROWS OF THIS SEAT. 2 by the template 'for every input the law returns true; each argument reads behind the call as it read before'; 0 by the template 'total and deterministic' (their statements: Qxb6002619aTotals.lean).
  GIVEN WITH THE SEED: the statements are not yours to turn. If you find one false, say at which input.
  Laid BY PROGRAM, IN A SANDBOX (cutbox-rows.mjs): the forced cells as the released guide's own fill.sh prints them over the translation 8e927c33e7df20e9… (all of the seat's roots in one cut). By AI agents, Wed Nov 11 2026. No macro, syntax, notation, axiom, sorry.
-/
import Derived.Test.Qxb6002619aChecked
import GoSem.Claim
import GoSem.ClaimJoined
import GoSem.ClaimMapViews
import Derived.JoinedTies
import Derived.KernelRfl
namespace Go.Proofs.Qxb6002619a
/- THE CELL 'sum', in the pinned program and in every row, IS THE sha256 OF THE DUMP (.gsa) THAT Qxb6002619aProg.lean LOADS. Nothing in Lean hashes anything: it is a label: what it is worth is what the hold of that sum in a sandbox is worth. -/
noncomputable def Try.pinned : Pinned := { name := "qxb6002619a", sum := "8e927c33e7df20e977967df457f012ebda4719ccf4ea1f74baa577e38dfda446", checked := Try.checked }
namespace Rows
def none {H : Type} : Left H := { results := [], args := [] }

/-- 'zzlaws_internal_diag_c1.PropListKeepsEarliestFifty': WHATEVER THE INPUT: true; the input reads as it did. -/
def propListKeepsEarliestFiftySpec : ChangeSpec := { name := "propListKeepsEarliestFifty", fn := fun _ => fun
  | [d] => { results := [.lit (.bool true)], args := [d] }
  | _ => none }
def propListKeepsEarliestFiftyRow : OpenClaim := { program := "qxb6002619a", sum := "8e927c33e7df20e977967df457f012ebda4719ccf4ea1f74baa577e38dfda446", func := "example.com/dialecta/dialecta/zzlaws_internal_diag_c1.PropListKeepsEarliestFifty", spec := "propListKeepsEarliestFifty", inPlace := ["slices.overlaps[example.com/dialecta/dialecta/internal/diag.Diagnostic]"], unfollowed := true, recurses := true, apart := false }
def PropListKeepsEarliestFiftySaid : Prop := propListKeepsEarliestFiftyRow.holds Try.pinned (OpenSpec.ofChange propListKeepsEarliestFiftySpec)

/-- ITS FALSE NEIGHBOUR: 'it returns false'. Refute it at one input. -/
def propListKeepsEarliestFiftyWrong : ChangeSpec := { name := "propListKeepsEarliestFifty", fn := fun _ => fun
  | [d] => { results := [.lit (.bool false)], args := [d] }
  | _ => none }
def PropListKeepsEarliestFiftyWrongFalsely : Prop := propListKeepsEarliestFiftyRow.holds Try.pinned (OpenSpec.ofChange propListKeepsEarliestFiftyWrong)

/-- 'zzlaws_internal_diag_c1.PropMergeAddsFirstOfEachLine': WHATEVER THE INPUT: true; the input reads as it did. -/
def propMergeAddsFirstOfEachLineSpec : ChangeSpec := { name := "propMergeAddsFirstOfEachLine", fn := fun _ => fun
  | [d1, d2] => { results := [.lit (.bool true)], args := [d1, d2] }
  | _ => none }
def propMergeAddsFirstOfEachLineRow : OpenClaim := { program := "qxb6002619a", sum := "8e927c33e7df20e977967df457f012ebda4719ccf4ea1f74baa577e38dfda446", func := "example.com/dialecta/dialecta/zzlaws_internal_diag_c1.PropMergeAddsFirstOfEachLine", spec := "propMergeAddsFirstOfEachLine", inPlace := ["slices.overlaps[example.com/dialecta/dialecta/internal/diag.Diagnostic]"], unfollowed := true, recurses := true, apart := false }
def PropMergeAddsFirstOfEachLineSaid : Prop := propMergeAddsFirstOfEachLineRow.holds Try.pinned (OpenSpec.ofChange propMergeAddsFirstOfEachLineSpec)

/-- ITS FALSE NEIGHBOUR: 'it returns false'. Refute it at one input. -/
def propMergeAddsFirstOfEachLineWrong : ChangeSpec := { name := "propMergeAddsFirstOfEachLine", fn := fun _ => fun
  | [d1, d2] => { results := [.lit (.bool false)], args := [d1, d2] }
  | _ => none }
def PropMergeAddsFirstOfEachLineWrongFalsely : Prop := propMergeAddsFirstOfEachLineRow.holds Try.pinned (OpenSpec.ofChange propMergeAddsFirstOfEachLineWrong)

end Rows
end Go.Proofs.Qxb6002619a
