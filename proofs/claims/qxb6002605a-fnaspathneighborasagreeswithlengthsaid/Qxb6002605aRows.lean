/-
  No cell of these rows narrows 'for every input' (looked for: loops, veiled, ifaces, maps, wideKeys, modest, calm, conditions, laid).
  DERIVED. THE GIVEN ROWS OF THIS SEAT. 4 by the template 'for every input the law returns true; each argument reads behind the call as it read before'; 0 by the template 'total and deterministic' (their statements: Qxb6002605aTotals.lean).
  GIVEN WITH THE SEED: the statements are not yours to turn. If you find one false, say at which input.
  Laid BY PROGRAM, IN A SANDBOX (cutbox-rows.mjs): the forced cells as the released guide's own fill.sh prints them over the translation bfc9a8bc81da899c… (all of the seat's roots in one cut). By AI agents, Wed Nov 11 2026. No macro, syntax, notation, axiom, sorry.
-/
import Derived.Test.Qxb6002605aChecked
import GoSem.Claim
import GoSem.ClaimJoined
import GoSem.ClaimMapViews
import Derived.JoinedTies
import Derived.KernelRfl
namespace Go.Proofs.Qxb6002605a
/- THE CELL 'sum', in the pinned program and in every row, IS THE sha256 OF THE DUMP (.gsa) THAT Qxb6002605aProg.lean LOADS. Nothing in Lean hashes anything: it is a label: what it is worth is what the hold of that sum in a sandbox is worth. -/
noncomputable def Try.pinned : Pinned := { name := "qxb6002605a", sum := "bfc9a8bc81da899c4deeecbfa62ad0c6cf72bd980a40637e633ffff7543a43df", checked := Try.checked }
namespace Rows
def none {H : Type} : Left H := { results := [], args := [] }

/-- 'zzlaws_wire_g1.FnASPathLengthAdditiveAndOrderBlind': WHATEVER THE INPUT: true; the input reads as it did. -/
def fnASPathLengthAdditiveAndOrderBlindSpec : ChangeSpec := { name := "fnASPathLengthAdditiveAndOrderBlind", fn := fun _ => fun
  | [d1, d2, d3, d4] => { results := [.lit (.bool true)], args := [d1, d2, d3, d4] }
  | _ => none }
def fnASPathLengthAdditiveAndOrderBlindRow : OpenClaim := { program := "qxb6002605a", sum := "bfc9a8bc81da899c4deeecbfa62ad0c6cf72bd980a40637e633ffff7543a43df", func := "example.com/weftwire/weftwire/zzlaws_wire_g1.FnASPathLengthAdditiveAndOrderBlind", spec := "fnASPathLengthAdditiveAndOrderBlind", apart := false }
def FnASPathLengthAdditiveAndOrderBlindSaid : Prop := fnASPathLengthAdditiveAndOrderBlindRow.holds Try.pinned (OpenSpec.ofChange fnASPathLengthAdditiveAndOrderBlindSpec)

/-- ITS FALSE NEIGHBOUR: 'it returns false'. Refute it at one input. -/
def fnASPathLengthAdditiveAndOrderBlindWrong : ChangeSpec := { name := "fnASPathLengthAdditiveAndOrderBlind", fn := fun _ => fun
  | [d1, d2, d3, d4] => { results := [.lit (.bool false)], args := [d1, d2, d3, d4] }
  | _ => none }
def FnASPathLengthAdditiveAndOrderBlindWrongFalsely : Prop := fnASPathLengthAdditiveAndOrderBlindRow.holds Try.pinned (OpenSpec.ofChange fnASPathLengthAdditiveAndOrderBlindWrong)

/-- 'zzlaws_wire_g1.FnASPathNeighborASAgreesWithLength': WHATEVER THE INPUT: true; the input reads as it did. -/
def fnASPathNeighborASAgreesWithLengthSpec : ChangeSpec := { name := "fnASPathNeighborASAgreesWithLength", fn := fun _ => fun
  | [d1, d2, d3, d4] => { results := [.lit (.bool true)], args := [d1, d2, d3, d4] }
  | _ => none }
def fnASPathNeighborASAgreesWithLengthRow : OpenClaim := { program := "qxb6002605a", sum := "bfc9a8bc81da899c4deeecbfa62ad0c6cf72bd980a40637e633ffff7543a43df", func := "example.com/weftwire/weftwire/zzlaws_wire_g1.FnASPathNeighborASAgreesWithLength", spec := "fnASPathNeighborASAgreesWithLength", apart := false }
def FnASPathNeighborASAgreesWithLengthSaid : Prop := fnASPathNeighborASAgreesWithLengthRow.holds Try.pinned (OpenSpec.ofChange fnASPathNeighborASAgreesWithLengthSpec)

/-- ITS FALSE NEIGHBOUR: 'it returns false'. Refute it at one input. -/
def fnASPathNeighborASAgreesWithLengthWrong : ChangeSpec := { name := "fnASPathNeighborASAgreesWithLength", fn := fun _ => fun
  | [d1, d2, d3, d4] => { results := [.lit (.bool false)], args := [d1, d2, d3, d4] }
  | _ => none }
def FnASPathNeighborASAgreesWithLengthWrongFalsely : Prop := fnASPathNeighborASAgreesWithLengthRow.holds Try.pinned (OpenSpec.ofChange fnASPathNeighborASAgreesWithLengthWrong)

/-- 'zzlaws_wire_g1.FnParseExtCommunitiesRoundTrip': WHATEVER THE INPUT: true; the input reads as it did. -/
def fnParseExtCommunitiesRoundTripSpec : ChangeSpec := { name := "fnParseExtCommunitiesRoundTrip", fn := fun _ => fun
  | [d1, d2] => { results := [.lit (.bool true)], args := [d1, d2] }
  | _ => none }
def fnParseExtCommunitiesRoundTripRow : OpenClaim := { program := "qxb6002605a", sum := "bfc9a8bc81da899c4deeecbfa62ad0c6cf72bd980a40637e633ffff7543a43df", func := "example.com/weftwire/weftwire/zzlaws_wire_g1.FnParseExtCommunitiesRoundTrip", spec := "fnParseExtCommunitiesRoundTrip", apart := false }
def FnParseExtCommunitiesRoundTripSaid : Prop := fnParseExtCommunitiesRoundTripRow.holds Try.pinned (OpenSpec.ofChange fnParseExtCommunitiesRoundTripSpec)

/-- ITS FALSE NEIGHBOUR: 'it returns false'. Refute it at one input. -/
def fnParseExtCommunitiesRoundTripWrong : ChangeSpec := { name := "fnParseExtCommunitiesRoundTrip", fn := fun _ => fun
  | [d1, d2] => { results := [.lit (.bool false)], args := [d1, d2] }
  | _ => none }
def FnParseExtCommunitiesRoundTripWrongFalsely : Prop := fnParseExtCommunitiesRoundTripRow.holds Try.pinned (OpenSpec.ofChange fnParseExtCommunitiesRoundTripWrong)

/-- 'zzlaws_wire_g1.FnRouteKeyIdempotentAndBlindToAttributes': WHATEVER THE INPUT: true; the input reads as it did. -/
def fnRouteKeyIdempotentAndBlindToAttributesSpec : ChangeSpec := { name := "fnRouteKeyIdempotentAndBlindToAttributes", fn := fun _ => fun
  | [d1, d2, d3, d4, d5, d6, d7, d8, d9, d10, d11] => { results := [.lit (.bool true)], args := [d1, d2, d3, d4, d5, d6, d7, d8, d9, d10, d11] }
  | _ => none }
def fnRouteKeyIdempotentAndBlindToAttributesRow : OpenClaim := { program := "qxb6002605a", sum := "bfc9a8bc81da899c4deeecbfa62ad0c6cf72bd980a40637e633ffff7543a43df", func := "example.com/weftwire/weftwire/zzlaws_wire_g1.FnRouteKeyIdempotentAndBlindToAttributes", spec := "fnRouteKeyIdempotentAndBlindToAttributes", apart := false }
def FnRouteKeyIdempotentAndBlindToAttributesSaid : Prop := fnRouteKeyIdempotentAndBlindToAttributesRow.holds Try.pinned (OpenSpec.ofChange fnRouteKeyIdempotentAndBlindToAttributesSpec)

/-- ITS FALSE NEIGHBOUR: 'it returns false'. Refute it at one input. -/
def fnRouteKeyIdempotentAndBlindToAttributesWrong : ChangeSpec := { name := "fnRouteKeyIdempotentAndBlindToAttributes", fn := fun _ => fun
  | [d1, d2, d3, d4, d5, d6, d7, d8, d9, d10, d11] => { results := [.lit (.bool false)], args := [d1, d2, d3, d4, d5, d6, d7, d8, d9, d10, d11] }
  | _ => none }
def FnRouteKeyIdempotentAndBlindToAttributesWrongFalsely : Prop := fnRouteKeyIdempotentAndBlindToAttributesRow.holds Try.pinned (OpenSpec.ofChange fnRouteKeyIdempotentAndBlindToAttributesWrong)

end Rows
end Go.Proofs.Qxb6002605a
