/-
  No cell of these rows narrows 'for every input' (looked for: loops, veiled, ifaces, maps, wideKeys, modest, calm, conditions, laid).
  DERIVED. THE GIVEN ROWS OF THIS SEAT. 4 by the template 'for every input the law returns true; each argument reads behind the call as it read before'; 0 by the template 'total and deterministic' (their statements: Qxb6603994aTotals.lean).
  GIVEN WITH THE SEED: the statements are not yours to turn. If you find one false, say at which input.
  Laid BY PROGRAM, IN A SANDBOX (cutbox-rows.mjs): the forced cells as the released guide's own fill.sh prints them over the translation 788683ab2390b0ba… (all of the seat's roots in one cut). By AI agents, Wed Nov 11 2026. No macro, syntax, notation, axiom, sorry.
-/
import Derived.Test.Qxb6603994aChecked
import GoSem.Claim
import GoSem.ClaimJoined
import GoSem.ClaimMapViews
import Derived.JoinedTies
import Derived.KernelRfl
namespace Go.Proofs.Qxb6603994a
/- THE CELL 'sum', in the pinned program and in every row, IS THE sha256 OF THE DUMP (.gsa) THAT Qxb6603994aProg.lean LOADS. Nothing in Lean hashes anything: it is a label: what it is worth is what the hold of that sum in a sandbox is worth. -/
noncomputable def Try.pinned : Pinned := { name := "qxb6603994a", sum := "788683ab2390b0baefc7494c7dc9ce8793dc07b754c6bbbb720df6a19c2148b5", checked := Try.checked }
namespace Rows
def none {H : Type} : Left H := { results := [], args := [] }

/-- 'zzlaws_pkg_mp4_b1.FnFindFirstOfType': WHATEVER THE INPUT: true; the input reads as it did. -/
def fnFindFirstOfTypeSpec : ChangeSpec := { name := "fnFindFirstOfType", fn := fun _ => fun
  | [d1, d2] => { results := [.lit (.bool true)], args := [d1, d2] }
  | _ => none }
def fnFindFirstOfTypeRow : OpenClaim := { program := "qxb6603994a", sum := "788683ab2390b0baefc7494c7dc9ce8793dc07b754c6bbbb720df6a19c2148b5", func := "example.com/framewise/framewise/zzlaws_pkg_mp4_b1.FnFindFirstOfType", spec := "fnFindFirstOfType", apart := false }
def FnFindFirstOfTypeSaid : Prop := fnFindFirstOfTypeRow.holds Try.pinned (OpenSpec.ofChange fnFindFirstOfTypeSpec)

/-- ITS FALSE NEIGHBOUR: 'it returns false'. Refute it at one input. -/
def fnFindFirstOfTypeWrong : ChangeSpec := { name := "fnFindFirstOfType", fn := fun _ => fun
  | [d1, d2] => { results := [.lit (.bool false)], args := [d1, d2] }
  | _ => none }
def FnFindFirstOfTypeWrongFalsely : Prop := fnFindFirstOfTypeRow.holds Try.pinned (OpenSpec.ofChange fnFindFirstOfTypeWrong)

/-- 'zzlaws_pkg_mp4_b1.FnCountersSyncKeptInMemoryDropsOnlyTheLast': WHATEVER THE INPUT: true; the input reads as it did. -/
def fnCountersSyncKeptInMemoryDropsOnlyTheLastSpec : ChangeSpec := { name := "fnCountersSyncKeptInMemoryDropsOnlyTheLast", fn := fun _ => fun
  | [d1, d2, d3, d4, d5, d6, d7, d8, d9, d10, d11] => { results := [.lit (.bool true)], args := [d1, d2, d3, d4, d5, d6, d7, d8, d9, d10, d11] }
  | _ => none }
def fnCountersSyncKeptInMemoryDropsOnlyTheLastRow : OpenClaim := { program := "qxb6603994a", sum := "788683ab2390b0baefc7494c7dc9ce8793dc07b754c6bbbb720df6a19c2148b5", func := "example.com/framewise/framewise/zzlaws_pkg_mp4_b1.FnCountersSyncKeptInMemoryDropsOnlyTheLast", spec := "fnCountersSyncKeptInMemoryDropsOnlyTheLast", apart := false }
def FnCountersSyncKeptInMemoryDropsOnlyTheLastSaid : Prop := fnCountersSyncKeptInMemoryDropsOnlyTheLastRow.holds Try.pinned (OpenSpec.ofChange fnCountersSyncKeptInMemoryDropsOnlyTheLastSpec)

/-- ITS FALSE NEIGHBOUR: 'it returns false'. Refute it at one input. -/
def fnCountersSyncKeptInMemoryDropsOnlyTheLastWrong : ChangeSpec := { name := "fnCountersSyncKeptInMemoryDropsOnlyTheLast", fn := fun _ => fun
  | [d1, d2, d3, d4, d5, d6, d7, d8, d9, d10, d11] => { results := [.lit (.bool false)], args := [d1, d2, d3, d4, d5, d6, d7, d8, d9, d10, d11] }
  | _ => none }
def FnCountersSyncKeptInMemoryDropsOnlyTheLastWrongFalsely : Prop := fnCountersSyncKeptInMemoryDropsOnlyTheLastRow.holds Try.pinned (OpenSpec.ofChange fnCountersSyncKeptInMemoryDropsOnlyTheLastWrong)

/-- 'zzlaws_pkg_mp4_b1.FnHeldExact': WHATEVER THE INPUT: true; the input reads as it did. -/
def fnHeldExactSpec : ChangeSpec := { name := "fnHeldExact", fn := fun _ => fun
  | [d1, d2, d3, d4, d5, d6, d7, d8] => { results := [.lit (.bool true)], args := [d1, d2, d3, d4, d5, d6, d7, d8] }
  | _ => none }
def fnHeldExactRow : OpenClaim := { program := "qxb6603994a", sum := "788683ab2390b0baefc7494c7dc9ce8793dc07b754c6bbbb720df6a19c2148b5", func := "example.com/framewise/framewise/zzlaws_pkg_mp4_b1.FnHeldExact", spec := "fnHeldExact", apart := false }
def FnHeldExactSaid : Prop := fnHeldExactRow.holds Try.pinned (OpenSpec.ofChange fnHeldExactSpec)

/-- ITS FALSE NEIGHBOUR: 'it returns false'. Refute it at one input. -/
def fnHeldExactWrong : ChangeSpec := { name := "fnHeldExact", fn := fun _ => fun
  | [d1, d2, d3, d4, d5, d6, d7, d8] => { results := [.lit (.bool false)], args := [d1, d2, d3, d4, d5, d6, d7, d8] }
  | _ => none }
def FnHeldExactWrongFalsely : Prop := fnHeldExactRow.holds Try.pinned (OpenSpec.ofChange fnHeldExactWrong)

/-- 'zzlaws_pkg_mp4_b1.FnHeldTilesItsBuffer': WHATEVER THE INPUT: true; the input reads as it did. -/
def fnHeldTilesItsBufferSpec : ChangeSpec := { name := "fnHeldTilesItsBuffer", fn := fun _ => fun
  | [d1, d2, d3, d4, d5, d6] => { results := [.lit (.bool true)], args := [d1, d2, d3, d4, d5, d6] }
  | _ => none }
def fnHeldTilesItsBufferRow : OpenClaim := { program := "qxb6603994a", sum := "788683ab2390b0baefc7494c7dc9ce8793dc07b754c6bbbb720df6a19c2148b5", func := "example.com/framewise/framewise/zzlaws_pkg_mp4_b1.FnHeldTilesItsBuffer", spec := "fnHeldTilesItsBuffer", apart := false }
def FnHeldTilesItsBufferSaid : Prop := fnHeldTilesItsBufferRow.holds Try.pinned (OpenSpec.ofChange fnHeldTilesItsBufferSpec)

/-- ITS FALSE NEIGHBOUR: 'it returns false'. Refute it at one input. -/
def fnHeldTilesItsBufferWrong : ChangeSpec := { name := "fnHeldTilesItsBuffer", fn := fun _ => fun
  | [d1, d2, d3, d4, d5, d6] => { results := [.lit (.bool false)], args := [d1, d2, d3, d4, d5, d6] }
  | _ => none }
def FnHeldTilesItsBufferWrongFalsely : Prop := fnHeldTilesItsBufferRow.holds Try.pinned (OpenSpec.ofChange fnHeldTilesItsBufferWrong)

end Rows
end Go.Proofs.Qxb6603994a
