/-
  No cell of these rows narrows 'for every input' (looked for: loops, veiled, ifaces, maps, wideKeys, modest, calm, conditions, laid).
  DERIVED. THE GIVEN ROWS OF THIS SEAT. 3 by the template 'for every input the law returns true; each argument reads behind the call as it read before'; 0 by the template 'total and deterministic' (their statements: Qxb6603717aTotals.lean).
  GIVEN WITH THE SEED: the statements are not yours to turn. If you find one false, say at which input.
  Laid BY PROGRAM, IN A SANDBOX (cutbox-rows.mjs): the forced cells as the released guide's own fill.sh prints them over the translation 177c5b0dcc1ff7b6… (all of the seat's roots in one cut). By AI agents, Wed Nov 11 2026. No macro, syntax, notation, axiom, sorry.
-/
import Derived.Test.Qxb6603717aChecked
import GoSem.Claim
import GoSem.ClaimJoined
import GoSem.ClaimMapViews
import Derived.JoinedTies
import Derived.KernelRfl
namespace Go.Proofs.Qxb6603717a
/- THE CELL 'sum', in the pinned program and in every row, IS THE sha256 OF THE DUMP (.gsa) THAT Qxb6603717aProg.lean LOADS. Nothing in Lean hashes anything: it is a label: what it is worth is what the hold of that sum in a sandbox is worth. -/
noncomputable def Try.pinned : Pinned := { name := "qxb6603717a", sum := "177c5b0dcc1ff7b69c77f27b193659c8aace9564008bf452fcd94e5e07d85a58", checked := Try.checked }
namespace Rows
def none {H : Type} : Left H := { results := [], args := [] }

/-- 'zzlaws_root_b1.FnNewRecordInjective': WHATEVER THE INPUT: true; the input reads as it did. -/
def fnNewRecordInjectiveSpec : ChangeSpec := { name := "fnNewRecordInjective", fn := fun _ => fun
  | [d1, d2, d3, d4, d5, d6] => { results := [.lit (.bool true)], args := [d1, d2, d3, d4, d5, d6] }
  | _ => none }
def fnNewRecordInjectiveRow : OpenClaim := { program := "qxb6603717a", sum := "177c5b0dcc1ff7b69c77f27b193659c8aace9564008bf452fcd94e5e07d85a58", func := "example.com/holdfast/holdfast/zzlaws_root_b1.FnNewRecordInjective", spec := "fnNewRecordInjective", apart := false }
def FnNewRecordInjectiveSaid : Prop := fnNewRecordInjectiveRow.holds Try.pinned (OpenSpec.ofChange fnNewRecordInjectiveSpec)

/-- ITS FALSE NEIGHBOUR: 'it returns false'. Refute it at one input. -/
def fnNewRecordInjectiveWrong : ChangeSpec := { name := "fnNewRecordInjective", fn := fun _ => fun
  | [d1, d2, d3, d4, d5, d6] => { results := [.lit (.bool false)], args := [d1, d2, d3, d4, d5, d6] }
  | _ => none }
def FnNewRecordInjectiveWrongFalsely : Prop := fnNewRecordInjectiveRow.holds Try.pinned (OpenSpec.ofChange fnNewRecordInjectiveWrong)

/-- 'zzlaws_root_b1.FnNewRecordRoom': WHATEVER THE INPUT: true; the input reads as it did. -/
def fnNewRecordRoomSpec : ChangeSpec := { name := "fnNewRecordRoom", fn := fun _ => fun
  | [d1, d2, d3] => { results := [.lit (.bool true)], args := [d1, d2, d3] }
  | _ => none }
def fnNewRecordRoomRow : OpenClaim := { program := "qxb6603717a", sum := "177c5b0dcc1ff7b69c77f27b193659c8aace9564008bf452fcd94e5e07d85a58", func := "example.com/holdfast/holdfast/zzlaws_root_b1.FnNewRecordRoom", spec := "fnNewRecordRoom", apart := false }
def FnNewRecordRoomSaid : Prop := fnNewRecordRoomRow.holds Try.pinned (OpenSpec.ofChange fnNewRecordRoomSpec)

/-- ITS FALSE NEIGHBOUR: 'it returns false'. Refute it at one input. -/
def fnNewRecordRoomWrong : ChangeSpec := { name := "fnNewRecordRoom", fn := fun _ => fun
  | [d1, d2, d3] => { results := [.lit (.bool false)], args := [d1, d2, d3] }
  | _ => none }
def FnNewRecordRoomWrongFalsely : Prop := fnNewRecordRoomRow.holds Try.pinned (OpenSpec.ofChange fnNewRecordRoomWrong)

/-- 'zzlaws_root_b1.FnApplyWritesSpec': WHATEVER THE INPUT: true; the input reads as it did. -/
def fnApplyWritesSpecSpec : ChangeSpec := { name := "fnApplyWritesSpec", fn := fun _ => fun
  | [d1, d2, d3, d4, d5] => { results := [.lit (.bool true)], args := [d1, d2, d3, d4, d5] }
  | _ => none }
def fnApplyWritesSpecRow : OpenClaim := { program := "qxb6603717a", sum := "177c5b0dcc1ff7b69c77f27b193659c8aace9564008bf452fcd94e5e07d85a58", func := "example.com/holdfast/holdfast/zzlaws_root_b1.FnApplyWritesSpec", spec := "fnApplyWritesSpec", apart := false }
def FnApplyWritesSpecSaid : Prop := fnApplyWritesSpecRow.holds Try.pinned (OpenSpec.ofChange fnApplyWritesSpecSpec)

/-- ITS FALSE NEIGHBOUR: 'it returns false'. Refute it at one input. -/
def fnApplyWritesSpecWrong : ChangeSpec := { name := "fnApplyWritesSpec", fn := fun _ => fun
  | [d1, d2, d3, d4, d5] => { results := [.lit (.bool false)], args := [d1, d2, d3, d4, d5] }
  | _ => none }
def FnApplyWritesSpecWrongFalsely : Prop := fnApplyWritesSpecRow.holds Try.pinned (OpenSpec.ofChange fnApplyWritesSpecWrong)

end Rows
end Go.Proofs.Qxb6603717a
