/-
  No cell of these rows narrows 'for every input' (looked for: loops, veiled, ifaces, maps, wideKeys, modest, calm, conditions, laid).
  DERIVED. THE GIVEN ROWS OF THIS SEAT. 4 by the template 'for every input the law returns true; each argument reads behind the call as it read before'; 0 by the template 'total and deterministic' (their statements: Qxb6603826aTotals.lean).
  GIVEN WITH THE SEED: the statements are not yours to turn. If you find one false, say at which input.
  Laid BY PROGRAM, IN A SANDBOX (cutbox-rows.mjs): the forced cells as the released guide's own fill.sh prints them over the translation 4f3b2226053f94e6… (all of the seat's roots in one cut). By AI agents, Wed Nov 11 2026. No macro, syntax, notation, axiom, sorry.
-/
import Derived.Test.Qxb6603826aChecked
import GoSem.Claim
import GoSem.ClaimJoined
import GoSem.ClaimMapViews
import Derived.JoinedTies
import Derived.KernelRfl
namespace Go.Proofs.Qxb6603826a
/- THE CELL 'sum', in the pinned program and in every row, IS THE sha256 OF THE DUMP (.gsa) THAT Qxb6603826aProg.lean LOADS. Nothing in Lean hashes anything: it is a label: what it is worth is what the hold of that sum in a sandbox is worth. -/
noncomputable def Try.pinned : Pinned := { name := "qxb6603826a", sum := "4f3b2226053f94e6db11f3efdfd57fee882478fe3fa102892cee534e4a93e0c1", checked := Try.checked }
namespace Rows
def none {H : Type} : Left H := { results := [], args := [] }

/-- 'zzlaws_internal_sntrup761_b1.FnEncodeAppendsToOutWhatItWritesAloneAndItsLengthHangsOnCountAndModulusAlone': WHATEVER THE INPUT: true; the input reads as it did. -/
def fnEncodeAppendsToOutWhatItWritesAloneAndItsLengthHangsOnCountAndModulusAloneSpec : ChangeSpec := { name := "fnEncodeAppendsToOutWhatItWritesAloneAndItsLengthHangsOnCountAndModulusAlone", fn := fun _ => fun
  | [d1, d2, d3] => { results := [.lit (.bool true)], args := [d1, d2, d3] }
  | _ => none }
def fnEncodeAppendsToOutWhatItWritesAloneAndItsLengthHangsOnCountAndModulusAloneRow : OpenClaim := { program := "qxb6603826a", sum := "4f3b2226053f94e6db11f3efdfd57fee882478fe3fa102892cee534e4a93e0c1", func := "keelhatch.example/keelhatch/zzlaws_internal_sntrup761_b1.FnEncodeAppendsToOutWhatItWritesAloneAndItsLengthHangsOnCountAndModulusAlone", spec := "fnEncodeAppendsToOutWhatItWritesAloneAndItsLengthHangsOnCountAndModulusAlone", apart := false }
def FnEncodeAppendsToOutWhatItWritesAloneAndItsLengthHangsOnCountAndModulusAloneSaid : Prop := fnEncodeAppendsToOutWhatItWritesAloneAndItsLengthHangsOnCountAndModulusAloneRow.holds Try.pinned (OpenSpec.ofChange fnEncodeAppendsToOutWhatItWritesAloneAndItsLengthHangsOnCountAndModulusAloneSpec)

/-- ITS FALSE NEIGHBOUR: 'it returns false'. Refute it at one input. -/
def fnEncodeAppendsToOutWhatItWritesAloneAndItsLengthHangsOnCountAndModulusAloneWrong : ChangeSpec := { name := "fnEncodeAppendsToOutWhatItWritesAloneAndItsLengthHangsOnCountAndModulusAlone", fn := fun _ => fun
  | [d1, d2, d3] => { results := [.lit (.bool false)], args := [d1, d2, d3] }
  | _ => none }
def FnEncodeAppendsToOutWhatItWritesAloneAndItsLengthHangsOnCountAndModulusAloneWrongFalsely : Prop := fnEncodeAppendsToOutWhatItWritesAloneAndItsLengthHangsOnCountAndModulusAloneRow.holds Try.pinned (OpenSpec.ofChange fnEncodeAppendsToOutWhatItWritesAloneAndItsLengthHangsOnCountAndModulusAloneWrong)

/-- 'zzlaws_internal_sntrup761_b1.FnDecodeListUndoesEncodeAndLeavesWhatFollows': WHATEVER THE INPUT: true; the input reads as it did. -/
def fnDecodeListUndoesEncodeAndLeavesWhatFollowsSpec : ChangeSpec := { name := "fnDecodeListUndoesEncodeAndLeavesWhatFollows", fn := fun _ => fun
  | [d1, d2, d3, d4] => { results := [.lit (.bool true)], args := [d1, d2, d3, d4] }
  | _ => none }
def fnDecodeListUndoesEncodeAndLeavesWhatFollowsRow : OpenClaim := { program := "qxb6603826a", sum := "4f3b2226053f94e6db11f3efdfd57fee882478fe3fa102892cee534e4a93e0c1", func := "keelhatch.example/keelhatch/zzlaws_internal_sntrup761_b1.FnDecodeListUndoesEncodeAndLeavesWhatFollows", spec := "fnDecodeListUndoesEncodeAndLeavesWhatFollows", recurses := true, apart := false }
def FnDecodeListUndoesEncodeAndLeavesWhatFollowsSaid : Prop := fnDecodeListUndoesEncodeAndLeavesWhatFollowsRow.holds Try.pinned (OpenSpec.ofChange fnDecodeListUndoesEncodeAndLeavesWhatFollowsSpec)

/-- ITS FALSE NEIGHBOUR: 'it returns false'. Refute it at one input. -/
def fnDecodeListUndoesEncodeAndLeavesWhatFollowsWrong : ChangeSpec := { name := "fnDecodeListUndoesEncodeAndLeavesWhatFollows", fn := fun _ => fun
  | [d1, d2, d3, d4] => { results := [.lit (.bool false)], args := [d1, d2, d3, d4] }
  | _ => none }
def FnDecodeListUndoesEncodeAndLeavesWhatFollowsWrongFalsely : Prop := fnDecodeListUndoesEncodeAndLeavesWhatFollowsRow.holds Try.pinned (OpenSpec.ofChange fnDecodeListUndoesEncodeAndLeavesWhatFollowsWrong)

/-- 'zzlaws_internal_sntrup761_b1.FnDecodeListReadsOneEncodingsBytesAndYieldsValuesBelowTheModulus': WHATEVER THE INPUT: true; the input reads as it did. -/
def fnDecodeListReadsOneEncodingsBytesAndYieldsValuesBelowTheModulusSpec : ChangeSpec := { name := "fnDecodeListReadsOneEncodingsBytesAndYieldsValuesBelowTheModulus", fn := fun _ => fun
  | [d1, d2] => { results := [.lit (.bool true)], args := [d1, d2] }
  | _ => none }
def fnDecodeListReadsOneEncodingsBytesAndYieldsValuesBelowTheModulusRow : OpenClaim := { program := "qxb6603826a", sum := "4f3b2226053f94e6db11f3efdfd57fee882478fe3fa102892cee534e4a93e0c1", func := "keelhatch.example/keelhatch/zzlaws_internal_sntrup761_b1.FnDecodeListReadsOneEncodingsBytesAndYieldsValuesBelowTheModulus", spec := "fnDecodeListReadsOneEncodingsBytesAndYieldsValuesBelowTheModulus", recurses := true, apart := false }
def FnDecodeListReadsOneEncodingsBytesAndYieldsValuesBelowTheModulusSaid : Prop := fnDecodeListReadsOneEncodingsBytesAndYieldsValuesBelowTheModulusRow.holds Try.pinned (OpenSpec.ofChange fnDecodeListReadsOneEncodingsBytesAndYieldsValuesBelowTheModulusSpec)

/-- ITS FALSE NEIGHBOUR: 'it returns false'. Refute it at one input. -/
def fnDecodeListReadsOneEncodingsBytesAndYieldsValuesBelowTheModulusWrong : ChangeSpec := { name := "fnDecodeListReadsOneEncodingsBytesAndYieldsValuesBelowTheModulus", fn := fun _ => fun
  | [d1, d2] => { results := [.lit (.bool false)], args := [d1, d2] }
  | _ => none }
def FnDecodeListReadsOneEncodingsBytesAndYieldsValuesBelowTheModulusWrongFalsely : Prop := fnDecodeListReadsOneEncodingsBytesAndYieldsValuesBelowTheModulusRow.holds Try.pinned (OpenSpec.ofChange fnDecodeListReadsOneEncodingsBytesAndYieldsValuesBelowTheModulusWrong)

/-- 'zzlaws_internal_sntrup761_b1.FnEncodeRoundedDecodesBackToItsCoefficients': WHATEVER THE INPUT: true; the input reads as it did. -/
def fnEncodeRoundedDecodesBackToItsCoefficientsSpec : ChangeSpec := { name := "fnEncodeRoundedDecodesBackToItsCoefficients", fn := fun _ => fun
  | [d] => { results := [.lit (.bool true)], args := [d] }
  | _ => none }
def fnEncodeRoundedDecodesBackToItsCoefficientsRow : OpenClaim := { program := "qxb6603826a", sum := "4f3b2226053f94e6db11f3efdfd57fee882478fe3fa102892cee534e4a93e0c1", func := "keelhatch.example/keelhatch/zzlaws_internal_sntrup761_b1.FnEncodeRoundedDecodesBackToItsCoefficients", spec := "fnEncodeRoundedDecodesBackToItsCoefficients", recurses := true, apart := false }
def FnEncodeRoundedDecodesBackToItsCoefficientsSaid : Prop := fnEncodeRoundedDecodesBackToItsCoefficientsRow.holds Try.pinned (OpenSpec.ofChange fnEncodeRoundedDecodesBackToItsCoefficientsSpec)

/-- ITS FALSE NEIGHBOUR: 'it returns false'. Refute it at one input. -/
def fnEncodeRoundedDecodesBackToItsCoefficientsWrong : ChangeSpec := { name := "fnEncodeRoundedDecodesBackToItsCoefficients", fn := fun _ => fun
  | [d] => { results := [.lit (.bool false)], args := [d] }
  | _ => none }
def FnEncodeRoundedDecodesBackToItsCoefficientsWrongFalsely : Prop := fnEncodeRoundedDecodesBackToItsCoefficientsRow.holds Try.pinned (OpenSpec.ofChange fnEncodeRoundedDecodesBackToItsCoefficientsWrong)

end Rows
end Go.Proofs.Qxb6603826a
