/-
  No cell of these rows narrows 'for every input' (looked for: loops, veiled, ifaces, maps, wideKeys, modest, calm, conditions, laid).
  DERIVED. THE GIVEN ROWS OF THIS SEAT. 6 by the template 'for every input the law returns true; each argument reads behind the call as it read before'; 0 by the template 'total and deterministic' (their statements: Qxb6601018aTotals.lean).
  GIVEN WITH THE SEED: the statements are not yours to turn. If you find one false, say at which input.
  Laid BY PROGRAM, IN A SANDBOX (cutbox-rows.mjs): the forced cells as the released guide's own fill.sh prints them over the translation b1dbca7b1e42aee2… (all of the seat's roots in one cut). By AI agents, Wed Nov 11 2026. No macro, syntax, notation, axiom, sorry.
-/
import Derived.Test.Qxb6601018aChecked
import GoSem.Claim
import GoSem.ClaimJoined
import GoSem.ClaimMapViews
import Derived.JoinedTies
import Derived.KernelRfl
namespace Go.Proofs.Qxb6601018a
/- THE CELL 'sum', in the pinned program and in every row, IS THE sha256 OF THE DUMP (.gsa) THAT Qxb6601018aProg.lean LOADS. Nothing in Lean hashes anything: it is a label: what it is worth is what the hold of that sum in a sandbox is worth. -/
noncomputable def Try.pinned : Pinned := { name := "qxb6601018a", sum := "b1dbca7b1e42aee2dc4312558691bd9855c9c00e2b252d4ac9d4b4f73ca7a903", checked := Try.checked }
namespace Rows
def none {H : Type} : Left H := { results := [], args := [] }

/-- 'zzlaws_internal_table_b1.FnShiftBackRemovesJustThatHash': WHATEVER THE INPUT: true; the input reads as it did. -/
def fnShiftBackRemovesJustThatHashSpec : ChangeSpec := { name := "fnShiftBackRemovesJustThatHash", fn := fun _ => fun
  | [d1, d2, d3] => { results := [.lit (.bool true)], args := [d1, d2, d3] }
  | _ => none }
def fnShiftBackRemovesJustThatHashRow : OpenClaim := { program := "qxb6601018a", sum := "b1dbca7b1e42aee2dc4312558691bd9855c9c00e2b252d4ac9d4b4f73ca7a903", func := "example.com/attestant/attestant/zzlaws_internal_table_b1.FnShiftBackRemovesJustThatHash", spec := "fnShiftBackRemovesJustThatHash", apart := false }
def FnShiftBackRemovesJustThatHashSaid : Prop := fnShiftBackRemovesJustThatHashRow.holds Try.pinned (OpenSpec.ofChange fnShiftBackRemovesJustThatHashSpec)

/-- ITS FALSE NEIGHBOUR: 'it returns false'. Refute it at one input. -/
def fnShiftBackRemovesJustThatHashWrong : ChangeSpec := { name := "fnShiftBackRemovesJustThatHash", fn := fun _ => fun
  | [d1, d2, d3] => { results := [.lit (.bool false)], args := [d1, d2, d3] }
  | _ => none }
def FnShiftBackRemovesJustThatHashWrongFalsely : Prop := fnShiftBackRemovesJustThatHashRow.holds Try.pinned (OpenSpec.ofChange fnShiftBackRemovesJustThatHashWrong)

/-- 'zzlaws_internal_table_b1.FnShiftBackLeavesTableAsIfNeverPut': WHATEVER THE INPUT: true; the input reads as it did. -/
def fnShiftBackLeavesTableAsIfNeverPutSpec : ChangeSpec := { name := "fnShiftBackLeavesTableAsIfNeverPut", fn := fun _ => fun
  | [d1, d2, d3] => { results := [.lit (.bool true)], args := [d1, d2, d3] }
  | _ => none }
def fnShiftBackLeavesTableAsIfNeverPutRow : OpenClaim := { program := "qxb6601018a", sum := "b1dbca7b1e42aee2dc4312558691bd9855c9c00e2b252d4ac9d4b4f73ca7a903", func := "example.com/attestant/attestant/zzlaws_internal_table_b1.FnShiftBackLeavesTableAsIfNeverPut", spec := "fnShiftBackLeavesTableAsIfNeverPut", apart := false }
def FnShiftBackLeavesTableAsIfNeverPutSaid : Prop := fnShiftBackLeavesTableAsIfNeverPutRow.holds Try.pinned (OpenSpec.ofChange fnShiftBackLeavesTableAsIfNeverPutSpec)

/-- ITS FALSE NEIGHBOUR: 'it returns false'. Refute it at one input. -/
def fnShiftBackLeavesTableAsIfNeverPutWrong : ChangeSpec := { name := "fnShiftBackLeavesTableAsIfNeverPut", fn := fun _ => fun
  | [d1, d2, d3] => { results := [.lit (.bool false)], args := [d1, d2, d3] }
  | _ => none }
def FnShiftBackLeavesTableAsIfNeverPutWrongFalsely : Prop := fnShiftBackLeavesTableAsIfNeverPutRow.holds Try.pinned (OpenSpec.ofChange fnShiftBackLeavesTableAsIfNeverPutWrong)

/-- 'zzlaws_internal_table_b1.FnPutLookupAnswersLastWrite': WHATEVER THE INPUT: true; the input reads as it did. -/
def fnPutLookupAnswersLastWriteSpec : ChangeSpec := { name := "fnPutLookupAnswersLastWrite", fn := fun _ => fun
  | [d1, d2, d3] => { results := [.lit (.bool true)], args := [d1, d2, d3] }
  | _ => none }
def fnPutLookupAnswersLastWriteRow : OpenClaim := { program := "qxb6601018a", sum := "b1dbca7b1e42aee2dc4312558691bd9855c9c00e2b252d4ac9d4b4f73ca7a903", func := "example.com/attestant/attestant/zzlaws_internal_table_b1.FnPutLookupAnswersLastWrite", spec := "fnPutLookupAnswersLastWrite", apart := false }
def FnPutLookupAnswersLastWriteSaid : Prop := fnPutLookupAnswersLastWriteRow.holds Try.pinned (OpenSpec.ofChange fnPutLookupAnswersLastWriteSpec)

/-- ITS FALSE NEIGHBOUR: 'it returns false'. Refute it at one input. -/
def fnPutLookupAnswersLastWriteWrong : ChangeSpec := { name := "fnPutLookupAnswersLastWrite", fn := fun _ => fun
  | [d1, d2, d3] => { results := [.lit (.bool false)], args := [d1, d2, d3] }
  | _ => none }
def FnPutLookupAnswersLastWriteWrongFalsely : Prop := fnPutLookupAnswersLastWriteRow.holds Try.pinned (OpenSpec.ofChange fnPutLookupAnswersLastWriteWrong)

/-- 'zzlaws_internal_table_b1.FnPutKeepsLoadAndShape': WHATEVER THE INPUT: true; the input reads as it did. -/
def fnPutKeepsLoadAndShapeSpec : ChangeSpec := { name := "fnPutKeepsLoadAndShape", fn := fun _ => fun
  | [d1, d2] => { results := [.lit (.bool true)], args := [d1, d2] }
  | _ => none }
def fnPutKeepsLoadAndShapeRow : OpenClaim := { program := "qxb6601018a", sum := "b1dbca7b1e42aee2dc4312558691bd9855c9c00e2b252d4ac9d4b4f73ca7a903", func := "example.com/attestant/attestant/zzlaws_internal_table_b1.FnPutKeepsLoadAndShape", spec := "fnPutKeepsLoadAndShape", apart := false }
def FnPutKeepsLoadAndShapeSaid : Prop := fnPutKeepsLoadAndShapeRow.holds Try.pinned (OpenSpec.ofChange fnPutKeepsLoadAndShapeSpec)

/-- ITS FALSE NEIGHBOUR: 'it returns false'. Refute it at one input. -/
def fnPutKeepsLoadAndShapeWrong : ChangeSpec := { name := "fnPutKeepsLoadAndShape", fn := fun _ => fun
  | [d1, d2] => { results := [.lit (.bool false)], args := [d1, d2] }
  | _ => none }
def FnPutKeepsLoadAndShapeWrongFalsely : Prop := fnPutKeepsLoadAndShapeRow.holds Try.pinned (OpenSpec.ofChange fnPutKeepsLoadAndShapeWrong)

/-- 'zzlaws_internal_table_b1.FnStepMovesItsWindowAndKeepsContents': WHATEVER THE INPUT: true; the input reads as it did. -/
def fnStepMovesItsWindowAndKeepsContentsSpec : ChangeSpec := { name := "fnStepMovesItsWindowAndKeepsContents", fn := fun _ => fun
  | [d1, d2, d3] => { results := [.lit (.bool true)], args := [d1, d2, d3] }
  | _ => none }
def fnStepMovesItsWindowAndKeepsContentsRow : OpenClaim := { program := "qxb6601018a", sum := "b1dbca7b1e42aee2dc4312558691bd9855c9c00e2b252d4ac9d4b4f73ca7a903", func := "example.com/attestant/attestant/zzlaws_internal_table_b1.FnStepMovesItsWindowAndKeepsContents", spec := "fnStepMovesItsWindowAndKeepsContents", apart := false }
def FnStepMovesItsWindowAndKeepsContentsSaid : Prop := fnStepMovesItsWindowAndKeepsContentsRow.holds Try.pinned (OpenSpec.ofChange fnStepMovesItsWindowAndKeepsContentsSpec)

/-- ITS FALSE NEIGHBOUR: 'it returns false'. Refute it at one input. -/
def fnStepMovesItsWindowAndKeepsContentsWrong : ChangeSpec := { name := "fnStepMovesItsWindowAndKeepsContents", fn := fun _ => fun
  | [d1, d2, d3] => { results := [.lit (.bool false)], args := [d1, d2, d3] }
  | _ => none }
def FnStepMovesItsWindowAndKeepsContentsWrongFalsely : Prop := fnStepMovesItsWindowAndKeepsContentsRow.holds Try.pinned (OpenSpec.ofChange fnStepMovesItsWindowAndKeepsContentsWrong)

/-- 'zzlaws_internal_table_b1.FnStepFinishesMigrationWithinBound': WHATEVER THE INPUT: true; the input reads as it did. -/
def fnStepFinishesMigrationWithinBoundSpec : ChangeSpec := { name := "fnStepFinishesMigrationWithinBound", fn := fun _ => fun
  | [d1, d2] => { results := [.lit (.bool true)], args := [d1, d2] }
  | _ => none }
def fnStepFinishesMigrationWithinBoundRow : OpenClaim := { program := "qxb6601018a", sum := "b1dbca7b1e42aee2dc4312558691bd9855c9c00e2b252d4ac9d4b4f73ca7a903", func := "example.com/attestant/attestant/zzlaws_internal_table_b1.FnStepFinishesMigrationWithinBound", spec := "fnStepFinishesMigrationWithinBound", apart := false }
def FnStepFinishesMigrationWithinBoundSaid : Prop := fnStepFinishesMigrationWithinBoundRow.holds Try.pinned (OpenSpec.ofChange fnStepFinishesMigrationWithinBoundSpec)

/-- ITS FALSE NEIGHBOUR: 'it returns false'. Refute it at one input. -/
def fnStepFinishesMigrationWithinBoundWrong : ChangeSpec := { name := "fnStepFinishesMigrationWithinBound", fn := fun _ => fun
  | [d1, d2] => { results := [.lit (.bool false)], args := [d1, d2] }
  | _ => none }
def FnStepFinishesMigrationWithinBoundWrongFalsely : Prop := fnStepFinishesMigrationWithinBoundRow.holds Try.pinned (OpenSpec.ofChange fnStepFinishesMigrationWithinBoundWrong)

end Rows
end Go.Proofs.Qxb6601018a
