/-
  No cell of these rows narrows 'for every input' (looked for: loops, veiled, ifaces, maps, wideKeys, modest, calm, conditions, laid).
  DERIVED. THE GIVEN ROWS OF THIS SEAT. 5 by the template 'for every input the law returns true; each argument reads behind the call as it read before'; 0 by the template 'total and deterministic' (their statements: Qxb6600979aTotals.lean).
  GIVEN WITH THE SEED: the statements are not yours to turn. If you find one false, say at which input.
  Laid BY PROGRAM, IN A SANDBOX (cutbox-rows.mjs): the forced cells as the released guide's own fill.sh prints them over the translation c621f2a5cb003a36… (all of the seat's roots in one cut). By AI agents, Wed Nov 11 2026. No macro, syntax, notation, axiom, sorry.
-/
import Derived.Test.Qxb6600979aChecked
import GoSem.Claim
import GoSem.ClaimJoined
import GoSem.ClaimMapViews
import Derived.JoinedTies
import Derived.KernelRfl
namespace Go.Proofs.Qxb6600979a
/- THE CELL 'sum', in the pinned program and in every row, IS THE sha256 OF THE DUMP (.gsa) THAT Qxb6600979aProg.lean LOADS. Nothing in Lean hashes anything: it is a label: what it is worth is what the hold of that sum in a sandbox is worth. -/
noncomputable def Try.pinned : Pinned := { name := "qxb6600979a", sum := "c621f2a5cb003a364dd970e24aac930111a6262ea6788625aa90d618fdca7689", checked := Try.checked }
namespace Rows
def none {H : Type} : Left H := { results := [], args := [] }

/-- 'zzlaws_root_b1.FnMergeRangesIsTheComponentsOfItsRanges': WHATEVER THE INPUT: true; the input reads as it did. -/
def fnMergeRangesIsTheComponentsOfItsRangesSpec : ChangeSpec := { name := "fnMergeRangesIsTheComponentsOfItsRanges", fn := fun _ => fun
  | [d] => { results := [.lit (.bool true)], args := [d] }
  | _ => none }
def fnMergeRangesIsTheComponentsOfItsRangesRow : OpenClaim := { program := "qxb6600979a", sum := "c621f2a5cb003a364dd970e24aac930111a6262ea6788625aa90d618fdca7689", func := "example.com/ordinal/ordinal/zzlaws_root_b1.FnMergeRangesIsTheComponentsOfItsRanges", spec := "fnMergeRangesIsTheComponentsOfItsRanges", inPlace := ["internal/bytealg.Compare"], unfollowed := true, recurses := true, apart := false }
def FnMergeRangesIsTheComponentsOfItsRangesSaid : Prop := fnMergeRangesIsTheComponentsOfItsRangesRow.holds Try.pinned (OpenSpec.ofChange fnMergeRangesIsTheComponentsOfItsRangesSpec)

/-- ITS FALSE NEIGHBOUR: 'it returns false'. Refute it at one input. -/
def fnMergeRangesIsTheComponentsOfItsRangesWrong : ChangeSpec := { name := "fnMergeRangesIsTheComponentsOfItsRanges", fn := fun _ => fun
  | [d] => { results := [.lit (.bool false)], args := [d] }
  | _ => none }
def FnMergeRangesIsTheComponentsOfItsRangesWrongFalsely : Prop := fnMergeRangesIsTheComponentsOfItsRangesRow.holds Try.pinned (OpenSpec.ofChange fnMergeRangesIsTheComponentsOfItsRangesWrong)

/-- 'zzlaws_root_b1.FnMergeRangesKeepsExactlyTheKeys': WHATEVER THE INPUT: true; the input reads as it did. -/
def fnMergeRangesKeepsExactlyTheKeysSpec : ChangeSpec := { name := "fnMergeRangesKeepsExactlyTheKeys", fn := fun _ => fun
  | [d1, d2] => { results := [.lit (.bool true)], args := [d1, d2] }
  | _ => none }
def fnMergeRangesKeepsExactlyTheKeysRow : OpenClaim := { program := "qxb6600979a", sum := "c621f2a5cb003a364dd970e24aac930111a6262ea6788625aa90d618fdca7689", func := "example.com/ordinal/ordinal/zzlaws_root_b1.FnMergeRangesKeepsExactlyTheKeys", spec := "fnMergeRangesKeepsExactlyTheKeys", inPlace := ["internal/bytealg.Compare"], unfollowed := true, recurses := true, apart := false }
def FnMergeRangesKeepsExactlyTheKeysSaid : Prop := fnMergeRangesKeepsExactlyTheKeysRow.holds Try.pinned (OpenSpec.ofChange fnMergeRangesKeepsExactlyTheKeysSpec)

/-- ITS FALSE NEIGHBOUR: 'it returns false'. Refute it at one input. -/
def fnMergeRangesKeepsExactlyTheKeysWrong : ChangeSpec := { name := "fnMergeRangesKeepsExactlyTheKeys", fn := fun _ => fun
  | [d1, d2] => { results := [.lit (.bool false)], args := [d1, d2] }
  | _ => none }
def FnMergeRangesKeepsExactlyTheKeysWrongFalsely : Prop := fnMergeRangesKeepsExactlyTheKeysRow.holds Try.pinned (OpenSpec.ofChange fnMergeRangesKeepsExactlyTheKeysWrong)

/-- 'zzlaws_root_b1.FnMergeRangesIgnoresInputOrder': WHATEVER THE INPUT: true; the input reads as it did. -/
def fnMergeRangesIgnoresInputOrderSpec : ChangeSpec := { name := "fnMergeRangesIgnoresInputOrder", fn := fun _ => fun
  | [d] => { results := [.lit (.bool true)], args := [d] }
  | _ => none }
def fnMergeRangesIgnoresInputOrderRow : OpenClaim := { program := "qxb6600979a", sum := "c621f2a5cb003a364dd970e24aac930111a6262ea6788625aa90d618fdca7689", func := "example.com/ordinal/ordinal/zzlaws_root_b1.FnMergeRangesIgnoresInputOrder", spec := "fnMergeRangesIgnoresInputOrder", inPlace := ["internal/bytealg.Compare"], unfollowed := true, recurses := true, apart := false }
def FnMergeRangesIgnoresInputOrderSaid : Prop := fnMergeRangesIgnoresInputOrderRow.holds Try.pinned (OpenSpec.ofChange fnMergeRangesIgnoresInputOrderSpec)

/-- ITS FALSE NEIGHBOUR: 'it returns false'. Refute it at one input. -/
def fnMergeRangesIgnoresInputOrderWrong : ChangeSpec := { name := "fnMergeRangesIgnoresInputOrder", fn := fun _ => fun
  | [d] => { results := [.lit (.bool false)], args := [d] }
  | _ => none }
def FnMergeRangesIgnoresInputOrderWrongFalsely : Prop := fnMergeRangesIgnoresInputOrderRow.holds Try.pinned (OpenSpec.ofChange fnMergeRangesIgnoresInputOrderWrong)

/-- 'zzlaws_root_b1.FnCloneCopiesBoundsExactly': WHATEVER THE INPUT: true; the input reads as it did. -/
def fnCloneCopiesBoundsExactlySpec : ChangeSpec := { name := "fnCloneCopiesBoundsExactly", fn := fun _ => fun
  | [d1, d2] => { results := [.lit (.bool true)], args := [d1, d2] }
  | _ => none }
def fnCloneCopiesBoundsExactlyRow : OpenClaim := { program := "qxb6600979a", sum := "c621f2a5cb003a364dd970e24aac930111a6262ea6788625aa90d618fdca7689", func := "example.com/ordinal/ordinal/zzlaws_root_b1.FnCloneCopiesBoundsExactly", spec := "fnCloneCopiesBoundsExactly", apart := false }
def FnCloneCopiesBoundsExactlySaid : Prop := fnCloneCopiesBoundsExactlyRow.holds Try.pinned (OpenSpec.ofChange fnCloneCopiesBoundsExactlySpec)

/-- ITS FALSE NEIGHBOUR: 'it returns false'. Refute it at one input. -/
def fnCloneCopiesBoundsExactlyWrong : ChangeSpec := { name := "fnCloneCopiesBoundsExactly", fn := fun _ => fun
  | [d1, d2] => { results := [.lit (.bool false)], args := [d1, d2] }
  | _ => none }
def FnCloneCopiesBoundsExactlyWrongFalsely : Prop := fnCloneCopiesBoundsExactlyRow.holds Try.pinned (OpenSpec.ofChange fnCloneCopiesBoundsExactlyWrong)

/-- 'zzlaws_root_b1.FnCloneBoundsShareNothing': WHATEVER THE INPUT: true; the input reads as it did. -/
def fnCloneBoundsShareNothingSpec : ChangeSpec := { name := "fnCloneBoundsShareNothing", fn := fun _ => fun
  | [d1, d2] => { results := [.lit (.bool true)], args := [d1, d2] }
  | _ => none }
def fnCloneBoundsShareNothingRow : OpenClaim := { program := "qxb6600979a", sum := "c621f2a5cb003a364dd970e24aac930111a6262ea6788625aa90d618fdca7689", func := "example.com/ordinal/ordinal/zzlaws_root_b1.FnCloneBoundsShareNothing", spec := "fnCloneBoundsShareNothing", apart := false }
def FnCloneBoundsShareNothingSaid : Prop := fnCloneBoundsShareNothingRow.holds Try.pinned (OpenSpec.ofChange fnCloneBoundsShareNothingSpec)

/-- ITS FALSE NEIGHBOUR: 'it returns false'. Refute it at one input. -/
def fnCloneBoundsShareNothingWrong : ChangeSpec := { name := "fnCloneBoundsShareNothing", fn := fun _ => fun
  | [d1, d2] => { results := [.lit (.bool false)], args := [d1, d2] }
  | _ => none }
def FnCloneBoundsShareNothingWrongFalsely : Prop := fnCloneBoundsShareNothingRow.holds Try.pinned (OpenSpec.ofChange fnCloneBoundsShareNothingWrong)

end Rows
end Go.Proofs.Qxb6600979a
