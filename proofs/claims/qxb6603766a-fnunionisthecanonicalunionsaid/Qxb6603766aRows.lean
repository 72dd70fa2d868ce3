/-
  No cell of these rows narrows 'for every input' (looked for: loops, veiled, ifaces, maps, wideKeys, modest, calm, conditions, laid).
  DERIVED. THE GIVEN ROWS OF THIS SEAT. 4 by the template 'for every input the law returns true; each argument reads behind the call as it read before'; 0 by the template 'total and deterministic' (their statements: Qxb6603766aTotals.lean).
  GIVEN WITH THE SEED: the statements are not yours to turn. If you find one false, say at which input.
  Laid BY PROGRAM, IN A SANDBOX (cutbox-rows.mjs): the forced cells as the released guide's own fill.sh prints them over the translation ab14bae3eafa7ef2… (all of the seat's roots in one cut). By AI agents, Wed Nov 11 2026. No macro, syntax, notation, axiom, sorry.
-/
import Derived.Test.Qxb6603766aChecked
import GoSem.Claim
import GoSem.ClaimJoined
import GoSem.ClaimMapViews
import Derived.JoinedTies
import Derived.KernelRfl
namespace Go.Proofs.Qxb6603766a
/- THE CELL 'sum', in the pinned program and in every row, IS THE sha256 OF THE DUMP (.gsa) THAT Qxb6603766aProg.lean LOADS. Nothing in Lean hashes anything: it is a label: what it is worth is what the hold of that sum in a sandbox is worth. -/
noncomputable def Try.pinned : Pinned := { name := "qxb6603766a", sum := "ab14bae3eafa7ef2eb167d3f3dd60eba304840812bb2dd728a9b9d3d43fbd908", checked := Try.checked }
namespace Rows
def none {H : Type} : Left H := { results := [], args := [] }

/-- 'zzlaws_pkg_pattern_b1.FnUnionIsTheCanonicalUnion': WHATEVER THE INPUT: true; the input reads as it did. -/
def fnUnionIsTheCanonicalUnionSpec : ChangeSpec := { name := "fnUnionIsTheCanonicalUnion", fn := fun _ => fun
  | [d1, d2, d3, d4] => { results := [.lit (.bool true)], args := [d1, d2, d3, d4] }
  | _ => none }
def fnUnionIsTheCanonicalUnionRow : OpenClaim := { program := "qxb6603766a", sum := "ab14bae3eafa7ef2eb167d3f3dd60eba304840812bb2dd728a9b9d3d43fbd908", func := "example.com/longhaul/longhaul/zzlaws_pkg_pattern_b1.FnUnionIsTheCanonicalUnion", spec := "fnUnionIsTheCanonicalUnion", apart := false }
def FnUnionIsTheCanonicalUnionSaid : Prop := fnUnionIsTheCanonicalUnionRow.holds Try.pinned (OpenSpec.ofChange fnUnionIsTheCanonicalUnionSpec)

/-- ITS FALSE NEIGHBOUR: 'it returns false'. Refute it at one input. -/
def fnUnionIsTheCanonicalUnionWrong : ChangeSpec := { name := "fnUnionIsTheCanonicalUnion", fn := fun _ => fun
  | [d1, d2, d3, d4] => { results := [.lit (.bool false)], args := [d1, d2, d3, d4] }
  | _ => none }
def FnUnionIsTheCanonicalUnionWrongFalsely : Prop := fnUnionIsTheCanonicalUnionRow.holds Try.pinned (OpenSpec.ofChange fnUnionIsTheCanonicalUnionWrong)

/-- 'zzlaws_pkg_pattern_b1.FnUnionCommutesAndAbsorbs': WHATEVER THE INPUT: true; the input reads as it did. -/
def fnUnionCommutesAndAbsorbsSpec : ChangeSpec := { name := "fnUnionCommutesAndAbsorbs", fn := fun _ => fun
  | [d1, d2, d3, d4] => { results := [.lit (.bool true)], args := [d1, d2, d3, d4] }
  | _ => none }
def fnUnionCommutesAndAbsorbsRow : OpenClaim := { program := "qxb6603766a", sum := "ab14bae3eafa7ef2eb167d3f3dd60eba304840812bb2dd728a9b9d3d43fbd908", func := "example.com/longhaul/longhaul/zzlaws_pkg_pattern_b1.FnUnionCommutesAndAbsorbs", spec := "fnUnionCommutesAndAbsorbs", apart := false }
def FnUnionCommutesAndAbsorbsSaid : Prop := fnUnionCommutesAndAbsorbsRow.holds Try.pinned (OpenSpec.ofChange fnUnionCommutesAndAbsorbsSpec)

/-- ITS FALSE NEIGHBOUR: 'it returns false'. Refute it at one input. -/
def fnUnionCommutesAndAbsorbsWrong : ChangeSpec := { name := "fnUnionCommutesAndAbsorbs", fn := fun _ => fun
  | [d1, d2, d3, d4] => { results := [.lit (.bool false)], args := [d1, d2, d3, d4] }
  | _ => none }
def FnUnionCommutesAndAbsorbsWrongFalsely : Prop := fnUnionCommutesAndAbsorbsRow.holds Try.pinned (OpenSpec.ofChange fnUnionCommutesAndAbsorbsWrong)

/-- 'zzlaws_pkg_pattern_b1.FnBackReferenceMovesByItsCapture': WHATEVER THE INPUT: true; the input reads as it did. -/
def fnBackReferenceMovesByItsCaptureSpec : ChangeSpec := { name := "fnBackReferenceMovesByItsCapture", fn := fun _ => fun
  | [d1, d2, d3, d4, d5, d6] => { results := [.lit (.bool true)], args := [d1, d2, d3, d4, d5, d6] }
  | _ => none }
def fnBackReferenceMovesByItsCaptureRow : OpenClaim := { program := "qxb6603766a", sum := "ab14bae3eafa7ef2eb167d3f3dd60eba304840812bb2dd728a9b9d3d43fbd908", func := "example.com/longhaul/longhaul/zzlaws_pkg_pattern_b1.FnBackReferenceMovesByItsCapture", spec := "fnBackReferenceMovesByItsCapture", apart := false }
def FnBackReferenceMovesByItsCaptureSaid : Prop := fnBackReferenceMovesByItsCaptureRow.holds Try.pinned (OpenSpec.ofChange fnBackReferenceMovesByItsCaptureSpec)

/-- ITS FALSE NEIGHBOUR: 'it returns false'. Refute it at one input. -/
def fnBackReferenceMovesByItsCaptureWrong : ChangeSpec := { name := "fnBackReferenceMovesByItsCapture", fn := fun _ => fun
  | [d1, d2, d3, d4, d5, d6] => { results := [.lit (.bool false)], args := [d1, d2, d3, d4, d5, d6] }
  | _ => none }
def FnBackReferenceMovesByItsCaptureWrongFalsely : Prop := fnBackReferenceMovesByItsCaptureRow.holds Try.pinned (OpenSpec.ofChange fnBackReferenceMovesByItsCaptureWrong)

/-- 'zzlaws_pkg_pattern_b1.FnBackReferenceRoundTrip': WHATEVER THE INPUT: true; the input reads as it did. -/
def fnBackReferenceRoundTripSpec : ChangeSpec := { name := "fnBackReferenceRoundTrip", fn := fun _ => fun
  | [d1, d2, d3, d4, d5] => { results := [.lit (.bool true)], args := [d1, d2, d3, d4, d5] }
  | _ => none }
def fnBackReferenceRoundTripRow : OpenClaim := { program := "qxb6603766a", sum := "ab14bae3eafa7ef2eb167d3f3dd60eba304840812bb2dd728a9b9d3d43fbd908", func := "example.com/longhaul/longhaul/zzlaws_pkg_pattern_b1.FnBackReferenceRoundTrip", spec := "fnBackReferenceRoundTrip", apart := false }
def FnBackReferenceRoundTripSaid : Prop := fnBackReferenceRoundTripRow.holds Try.pinned (OpenSpec.ofChange fnBackReferenceRoundTripSpec)

/-- ITS FALSE NEIGHBOUR: 'it returns false'. Refute it at one input. -/
def fnBackReferenceRoundTripWrong : ChangeSpec := { name := "fnBackReferenceRoundTrip", fn := fun _ => fun
  | [d1, d2, d3, d4, d5] => { results := [.lit (.bool false)], args := [d1, d2, d3, d4, d5] }
  | _ => none }
def FnBackReferenceRoundTripWrongFalsely : Prop := fnBackReferenceRoundTripRow.holds Try.pinned (OpenSpec.ofChange fnBackReferenceRoundTripWrong)

end Rows
end Go.Proofs.Qxb6603766a
