/-
  No cell of these rows narrows 'for every input' (looked for: loops, veiled, ifaces, maps, wideKeys, modest, calm, conditions, laid).
  DERIVED. THE GIVEN ROWS OF THIS SEAT. 2 by the template 'for every input the law returns true; each argument reads behind the call as it read before'; 0 by the template 'total and deterministic' (their statements: Qxb6605819aTotals.lean).
  GIVEN WITH THE SEED: the statements are not yours to turn. If you find one false, say at which input.
  Laid BY PROGRAM, IN A SANDBOX (cutbox-rows.mjs): the forced cells as the released guide's own fill.sh prints them over the translation 3d4f55845d263206… (all of the seat's roots in one cut). By AI agents, Wed Nov 11 2026. No macro, syntax, notation, axiom, sorry.
-/
import Derived.Test.Qxb6605819aChecked
import GoSem.Claim
import GoSem.ClaimJoined
import GoSem.ClaimMapViews
import Derived.JoinedTies
import Derived.KernelRfl
namespace Go.Proofs.Qxb6605819a
/- THE CELL 'sum', in the pinned program and in every row, IS THE sha256 OF THE DUMP (.gsa) THAT Qxb6605819aProg.lean LOADS. Nothing in Lean hashes anything: it is a label: what it is worth is what the hold of that sum in a sandbox is worth. -/
noncomputable def Try.pinned : Pinned := { name := "qxb6605819a", sum := "3d4f55845d2632065319aaa6bb36c8654d1b64d32f860017cdf3f43c9947db98", checked := Try.checked }
namespace Rows
def none {H : Type} : Left H := { results := [], args := [] }

/-- 'zzlaws_root_b1.FnOrgRoleValidIsExactlyTheThreeRoles': WHATEVER THE INPUT: true; the input reads as it did. -/
def fnOrgRoleValidIsExactlyTheThreeRolesSpec : ChangeSpec := { name := "fnOrgRoleValidIsExactlyTheThreeRoles", fn := fun _ => fun
  | [d] => { results := [.lit (.bool true)], args := [d] }
  | _ => none }
def fnOrgRoleValidIsExactlyTheThreeRolesRow : OpenClaim := { program := "qxb6605819a", sum := "3d4f55845d2632065319aaa6bb36c8654d1b64d32f860017cdf3f43c9947db98", func := "example.com/bindery/bindery/zzlaws_root_b1.FnOrgRoleValidIsExactlyTheThreeRoles", spec := "fnOrgRoleValidIsExactlyTheThreeRoles", apart := false }
def FnOrgRoleValidIsExactlyTheThreeRolesSaid : Prop := fnOrgRoleValidIsExactlyTheThreeRolesRow.holds Try.pinned (OpenSpec.ofChange fnOrgRoleValidIsExactlyTheThreeRolesSpec)

/-- ITS FALSE NEIGHBOUR: 'it returns false'. Refute it at one input. -/
def fnOrgRoleValidIsExactlyTheThreeRolesWrong : ChangeSpec := { name := "fnOrgRoleValidIsExactlyTheThreeRoles", fn := fun _ => fun
  | [d] => { results := [.lit (.bool false)], args := [d] }
  | _ => none }
def FnOrgRoleValidIsExactlyTheThreeRolesWrongFalsely : Prop := fnOrgRoleValidIsExactlyTheThreeRolesRow.holds Try.pinned (OpenSpec.ofChange fnOrgRoleValidIsExactlyTheThreeRolesWrong)

/-- 'zzlaws_root_b1.FnOrgRoleValidCountsTheRolesInAWindow': WHATEVER THE INPUT: true; the input reads as it did. -/
def fnOrgRoleValidCountsTheRolesInAWindowSpec : ChangeSpec := { name := "fnOrgRoleValidCountsTheRolesInAWindow", fn := fun _ => fun
  | [d1, d2] => { results := [.lit (.bool true)], args := [d1, d2] }
  | _ => none }
def fnOrgRoleValidCountsTheRolesInAWindowRow : OpenClaim := { program := "qxb6605819a", sum := "3d4f55845d2632065319aaa6bb36c8654d1b64d32f860017cdf3f43c9947db98", func := "example.com/bindery/bindery/zzlaws_root_b1.FnOrgRoleValidCountsTheRolesInAWindow", spec := "fnOrgRoleValidCountsTheRolesInAWindow", apart := false }
def FnOrgRoleValidCountsTheRolesInAWindowSaid : Prop := fnOrgRoleValidCountsTheRolesInAWindowRow.holds Try.pinned (OpenSpec.ofChange fnOrgRoleValidCountsTheRolesInAWindowSpec)

/-- ITS FALSE NEIGHBOUR: 'it returns false'. Refute it at one input. -/
def fnOrgRoleValidCountsTheRolesInAWindowWrong : ChangeSpec := { name := "fnOrgRoleValidCountsTheRolesInAWindow", fn := fun _ => fun
  | [d1, d2] => { results := [.lit (.bool false)], args := [d1, d2] }
  | _ => none }
def FnOrgRoleValidCountsTheRolesInAWindowWrongFalsely : Prop := fnOrgRoleValidCountsTheRolesInAWindowRow.holds Try.pinned (OpenSpec.ofChange fnOrgRoleValidCountsTheRolesInAWindowWrong)

end Rows
end Go.Proofs.Qxb6605819a
