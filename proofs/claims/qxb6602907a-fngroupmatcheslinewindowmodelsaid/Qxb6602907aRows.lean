/-
  No cell of these rows narrows 'for every input' (looked for: loops, veiled, ifaces, maps, wideKeys, modest, calm, conditions, laid).
  DERIVED. THE GIVEN ROWS OF THIS SEAT. 2 by the template 'for every input the law returns true; each argument reads behind the call as it read before'; 0 by the template 'total and deterministic' (their statements: Qxb6602907aTotals.lean).
  GIVEN WITH THE SEED: the statements are not yours to turn. If you find one false, say at which input.
  Laid BY PROGRAM, IN A SANDBOX (cutbox-rows.mjs): the forced cells as the released guide's own fill.sh prints them over the translation b96462c9589e99e7… (all of the seat's roots in one cut). By AI agents, Wed Nov 11 2026. No macro, syntax, notation, axiom, sorry.
-/
import Derived.Test.Qxb6602907aChecked
import GoSem.Claim
import GoSem.ClaimJoined
import GoSem.ClaimMapViews
import Derived.JoinedTies
import Derived.KernelRfl
namespace Go.Proofs.Qxb6602907a
/- THE CELL 'sum', in the pinned program and in every row, IS THE sha256 OF THE DUMP (.gsa) THAT Qxb6602907aProg.lean LOADS. Nothing in Lean hashes anything: it is a label: what it is worth is what the hold of that sum in a sandbox is worth. -/
noncomputable def Try.pinned : Pinned := { name := "qxb6602907a", sum := "b96462c9589e99e7e0a0f55b51f030892879c6649166e6985f7e2a40fed5939c", checked := Try.checked }
namespace Rows
def none {H : Type} : Left H := { results := [], args := [] }

/-- 'zzlaws_pkg_textdiff_b1.FnGroupMatchesLineWindowModel': WHATEVER THE INPUT: true; the input reads as it did. -/
def fnGroupMatchesLineWindowModelSpec : ChangeSpec := { name := "fnGroupMatchesLineWindowModel", fn := fun _ => fun
  | [d1, d2, d3, d4, d5] => { results := [.lit (.bool true)], args := [d1, d2, d3, d4, d5] }
  | _ => none }
def fnGroupMatchesLineWindowModelRow : OpenClaim := { program := "qxb6602907a", sum := "b96462c9589e99e7e0a0f55b51f030892879c6649166e6985f7e2a40fed5939c", func := "example.com/stowage/stowage/zzlaws_pkg_textdiff_b1.FnGroupMatchesLineWindowModel", spec := "fnGroupMatchesLineWindowModel", apart := false }
def FnGroupMatchesLineWindowModelSaid : Prop := fnGroupMatchesLineWindowModelRow.holds Try.pinned (OpenSpec.ofChange fnGroupMatchesLineWindowModelSpec)

/-- ITS FALSE NEIGHBOUR: 'it returns false'. Refute it at one input. -/
def fnGroupMatchesLineWindowModelWrong : ChangeSpec := { name := "fnGroupMatchesLineWindowModel", fn := fun _ => fun
  | [d1, d2, d3, d4, d5] => { results := [.lit (.bool false)], args := [d1, d2, d3, d4, d5] }
  | _ => none }
def FnGroupMatchesLineWindowModelWrongFalsely : Prop := fnGroupMatchesLineWindowModelRow.holds Try.pinned (OpenSpec.ofChange fnGroupMatchesLineWindowModelWrong)

/-- 'zzlaws_pkg_textdiff_b1.FnGroupHunksPatchFromIntoTo': WHATEVER THE INPUT: true; the input reads as it did. -/
def fnGroupHunksPatchFromIntoToSpec : ChangeSpec := { name := "fnGroupHunksPatchFromIntoTo", fn := fun _ => fun
  | [d1, d2, d3, d4, d5] => { results := [.lit (.bool true)], args := [d1, d2, d3, d4, d5] }
  | _ => none }
def fnGroupHunksPatchFromIntoToRow : OpenClaim := { program := "qxb6602907a", sum := "b96462c9589e99e7e0a0f55b51f030892879c6649166e6985f7e2a40fed5939c", func := "example.com/stowage/stowage/zzlaws_pkg_textdiff_b1.FnGroupHunksPatchFromIntoTo", spec := "fnGroupHunksPatchFromIntoTo", apart := false }
def FnGroupHunksPatchFromIntoToSaid : Prop := fnGroupHunksPatchFromIntoToRow.holds Try.pinned (OpenSpec.ofChange fnGroupHunksPatchFromIntoToSpec)

/-- ITS FALSE NEIGHBOUR: 'it returns false'. Refute it at one input. -/
def fnGroupHunksPatchFromIntoToWrong : ChangeSpec := { name := "fnGroupHunksPatchFromIntoTo", fn := fun _ => fun
  | [d1, d2, d3, d4, d5] => { results := [.lit (.bool false)], args := [d1, d2, d3, d4, d5] }
  | _ => none }
def FnGroupHunksPatchFromIntoToWrongFalsely : Prop := fnGroupHunksPatchFromIntoToRow.holds Try.pinned (OpenSpec.ofChange fnGroupHunksPatchFromIntoToWrong)

end Rows
end Go.Proofs.Qxb6602907a
