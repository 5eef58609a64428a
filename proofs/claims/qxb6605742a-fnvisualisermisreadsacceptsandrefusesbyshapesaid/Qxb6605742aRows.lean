/-
  No cell of these rows narrows 'for every input' (looked for: loops, veiled, ifaces, maps, wideKeys, modest, calm, conditions, laid).
  DERIVED. THE GIVEN ROWS OF THIS SEAT. 5 by the template 'for every input the law returns true; each argument reads behind the call as it read before'; 0 by the template 'total and deterministic' (their statements: Qxb6605742aTotals.lean).
  GIVEN WITH THE SEED: the statements are not yours to turn. If you find one false, say at which input.
  Laid BY PROGRAM, IN A SANDBOX (cutbox-rows.mjs): the forced cells as the released guide's own fill.sh prints them over the translation 8f70dc07a02787a7… (all of the seat's roots in one cut). By AI agents, Wed Nov 11 2026. No macro, syntax, notation, axiom, sorry.
-/
import Derived.Test.Qxb6605742aChecked
import GoSem.Claim
import GoSem.ClaimJoined
import GoSem.ClaimMapViews
import Derived.JoinedTies
import Derived.KernelRfl
namespace Go.Proofs.Qxb6605742a
/- THE CELL 'sum', in the pinned program and in every row, IS THE sha256 OF THE DUMP (.gsa) THAT Qxb6605742aProg.lean LOADS. Nothing in Lean hashes anything: it is a label: what it is worth is what the hold of that sum in a sandbox is worth. -/
noncomputable def Try.pinned : Pinned := { name := "qxb6605742a", sum := "8f70dc07a02787a76d3048c936ea50f8ae987636d66c05a5c8f418d9cdb18100", checked := Try.checked }
namespace Rows
def none {H : Type} : Left H := { results := [], args := [] }

/-- 'zzlaws_root_b1.FnPlayOrderIsTopologicalAndMaximal': WHATEVER THE INPUT: true; the input reads as it did. -/
def fnPlayOrderIsTopologicalAndMaximalSpec : ChangeSpec := { name := "fnPlayOrderIsTopologicalAndMaximal", fn := fun _ => fun
  | [d] => { results := [.lit (.bool true)], args := [d] }
  | _ => none }
def fnPlayOrderIsTopologicalAndMaximalRow : OpenClaim := { program := "qxb6605742a", sum := "8f70dc07a02787a76d3048c936ea50f8ae987636d66c05a5c8f418d9cdb18100", func := "example.com/precedent/precedent/zzlaws_root_b1.FnPlayOrderIsTopologicalAndMaximal", spec := "fnPlayOrderIsTopologicalAndMaximal", apart := false }
def FnPlayOrderIsTopologicalAndMaximalSaid : Prop := fnPlayOrderIsTopologicalAndMaximalRow.holds Try.pinned (OpenSpec.ofChange fnPlayOrderIsTopologicalAndMaximalSpec)

/-- ITS FALSE NEIGHBOUR: 'it returns false'. Refute it at one input. -/
def fnPlayOrderIsTopologicalAndMaximalWrong : ChangeSpec := { name := "fnPlayOrderIsTopologicalAndMaximal", fn := fun _ => fun
  | [d] => { results := [.lit (.bool false)], args := [d] }
  | _ => none }
def FnPlayOrderIsTopologicalAndMaximalWrongFalsely : Prop := fnPlayOrderIsTopologicalAndMaximalRow.holds Try.pinned (OpenSpec.ofChange fnPlayOrderIsTopologicalAndMaximalWrong)

/-- 'zzlaws_root_b1.FnPlayOrderPlaysFreeStepsFirstInRecordOrder': WHATEVER THE INPUT: true; the input reads as it did. -/
def fnPlayOrderPlaysFreeStepsFirstInRecordOrderSpec : ChangeSpec := { name := "fnPlayOrderPlaysFreeStepsFirstInRecordOrder", fn := fun _ => fun
  | [d] => { results := [.lit (.bool true)], args := [d] }
  | _ => none }
def fnPlayOrderPlaysFreeStepsFirstInRecordOrderRow : OpenClaim := { program := "qxb6605742a", sum := "8f70dc07a02787a76d3048c936ea50f8ae987636d66c05a5c8f418d9cdb18100", func := "example.com/precedent/precedent/zzlaws_root_b1.FnPlayOrderPlaysFreeStepsFirstInRecordOrder", spec := "fnPlayOrderPlaysFreeStepsFirstInRecordOrder", apart := false }
def FnPlayOrderPlaysFreeStepsFirstInRecordOrderSaid : Prop := fnPlayOrderPlaysFreeStepsFirstInRecordOrderRow.holds Try.pinned (OpenSpec.ofChange fnPlayOrderPlaysFreeStepsFirstInRecordOrderSpec)

/-- ITS FALSE NEIGHBOUR: 'it returns false'. Refute it at one input. -/
def fnPlayOrderPlaysFreeStepsFirstInRecordOrderWrong : ChangeSpec := { name := "fnPlayOrderPlaysFreeStepsFirstInRecordOrder", fn := fun _ => fun
  | [d] => { results := [.lit (.bool false)], args := [d] }
  | _ => none }
def FnPlayOrderPlaysFreeStepsFirstInRecordOrderWrongFalsely : Prop := fnPlayOrderPlaysFreeStepsFirstInRecordOrderRow.holds Try.pinned (OpenSpec.ofChange fnPlayOrderPlaysFreeStepsFirstInRecordOrderWrong)

/-- 'zzlaws_root_b1.FnSubmittedStringSplitsBackAtItsSpace': WHATEVER THE INPUT: true; the input reads as it did. -/
def fnSubmittedStringSplitsBackAtItsSpaceSpec : ChangeSpec := { name := "fnSubmittedStringSplitsBackAtItsSpace", fn := fun _ => fun
  | [d1, d2] => { results := [.lit (.bool true)], args := [d1, d2] }
  | _ => none }
def fnSubmittedStringSplitsBackAtItsSpaceRow : OpenClaim := { program := "qxb6605742a", sum := "8f70dc07a02787a76d3048c936ea50f8ae987636d66c05a5c8f418d9cdb18100", func := "example.com/precedent/precedent/zzlaws_root_b1.FnSubmittedStringSplitsBackAtItsSpace", spec := "fnSubmittedStringSplitsBackAtItsSpace", apart := false }
def FnSubmittedStringSplitsBackAtItsSpaceSaid : Prop := fnSubmittedStringSplitsBackAtItsSpaceRow.holds Try.pinned (OpenSpec.ofChange fnSubmittedStringSplitsBackAtItsSpaceSpec)

/-- ITS FALSE NEIGHBOUR: 'it returns false'. Refute it at one input. -/
def fnSubmittedStringSplitsBackAtItsSpaceWrong : ChangeSpec := { name := "fnSubmittedStringSplitsBackAtItsSpace", fn := fun _ => fun
  | [d1, d2] => { results := [.lit (.bool false)], args := [d1, d2] }
  | _ => none }
def FnSubmittedStringSplitsBackAtItsSpaceWrongFalsely : Prop := fnSubmittedStringSplitsBackAtItsSpaceRow.holds Try.pinned (OpenSpec.ofChange fnSubmittedStringSplitsBackAtItsSpaceWrong)

/-- 'zzlaws_root_b1.FnSubmittedStringTellsParticipantsApart': WHATEVER THE INPUT: true; the input reads as it did. -/
def fnSubmittedStringTellsParticipantsApartSpec : ChangeSpec := { name := "fnSubmittedStringTellsParticipantsApart", fn := fun _ => fun
  | [d1, d2, d3, d4] => { results := [.lit (.bool true)], args := [d1, d2, d3, d4] }
  | _ => none }
def fnSubmittedStringTellsParticipantsApartRow : OpenClaim := { program := "qxb6605742a", sum := "8f70dc07a02787a76d3048c936ea50f8ae987636d66c05a5c8f418d9cdb18100", func := "example.com/precedent/precedent/zzlaws_root_b1.FnSubmittedStringTellsParticipantsApart", spec := "fnSubmittedStringTellsParticipantsApart", apart := false }
def FnSubmittedStringTellsParticipantsApartSaid : Prop := fnSubmittedStringTellsParticipantsApartRow.holds Try.pinned (OpenSpec.ofChange fnSubmittedStringTellsParticipantsApartSpec)

/-- ITS FALSE NEIGHBOUR: 'it returns false'. Refute it at one input. -/
def fnSubmittedStringTellsParticipantsApartWrong : ChangeSpec := { name := "fnSubmittedStringTellsParticipantsApart", fn := fun _ => fun
  | [d1, d2, d3, d4] => { results := [.lit (.bool false)], args := [d1, d2, d3, d4] }
  | _ => none }
def FnSubmittedStringTellsParticipantsApartWrongFalsely : Prop := fnSubmittedStringTellsParticipantsApartRow.holds Try.pinned (OpenSpec.ofChange fnSubmittedStringTellsParticipantsApartWrong)

/-- 'zzlaws_root_b1.FnVisualiserMisreadsAcceptsAndRefusesByShape': WHATEVER THE INPUT: true; the input reads as it did. -/
def fnVisualiserMisreadsAcceptsAndRefusesByShapeSpec : ChangeSpec := { name := "fnVisualiserMisreadsAcceptsAndRefusesByShape", fn := fun _ => fun
  | [d1, d2, d3] => { results := [.lit (.bool true)], args := [d1, d2, d3] }
  | _ => none }
def fnVisualiserMisreadsAcceptsAndRefusesByShapeRow : OpenClaim := { program := "qxb6605742a", sum := "8f70dc07a02787a76d3048c936ea50f8ae987636d66c05a5c8f418d9cdb18100", func := "example.com/precedent/precedent/zzlaws_root_b1.FnVisualiserMisreadsAcceptsAndRefusesByShape", spec := "fnVisualiserMisreadsAcceptsAndRefusesByShape", inPlace := ["internal/bytealg.IndexByteString", "internal/bytealg.IndexString"], named := ["internal/bytealg.MaxLen"], apart := false }
def FnVisualiserMisreadsAcceptsAndRefusesByShapeSaid : Prop := fnVisualiserMisreadsAcceptsAndRefusesByShapeRow.holds Try.pinned (OpenSpec.ofChange fnVisualiserMisreadsAcceptsAndRefusesByShapeSpec)

/-- ITS FALSE NEIGHBOUR: 'it returns false'. Refute it at one input. -/
def fnVisualiserMisreadsAcceptsAndRefusesByShapeWrong : ChangeSpec := { name := "fnVisualiserMisreadsAcceptsAndRefusesByShape", fn := fun _ => fun
  | [d1, d2, d3] => { results := [.lit (.bool false)], args := [d1, d2, d3] }
  | _ => none }
def FnVisualiserMisreadsAcceptsAndRefusesByShapeWrongFalsely : Prop := fnVisualiserMisreadsAcceptsAndRefusesByShapeRow.holds Try.pinned (OpenSpec.ofChange fnVisualiserMisreadsAcceptsAndRefusesByShapeWrong)

end Rows
end Go.Proofs.Qxb6605742a
