/-
  No cell of these rows narrows 'for every input' (looked for: loops, veiled, ifaces, maps, wideKeys, modest, calm, conditions, laid).
  DERIVED. THE GIVEN ROWS OF THIS SEAT. 1 by the template 'for every input the law returns true; each argument reads behind the call as it read before'; 0 by the template 'total and deterministic' (their statements: Qxb6605801aTotals.lean).
  GIVEN WITH THE SEED: the statements are not yours to turn. If you find one false, say at which input.
  Laid BY PROGRAM, IN A SANDBOX (cutbox-rows.mjs): the forced cells as the released guide's own fill.sh prints them over the translation 71cc4153c41ab2b5… (all of the seat's roots in one cut). By AI agents, Wed Nov 11 2026. No macro, syntax, notation, axiom, sorry.
-/
import Derived.Test.Qxb6605801aChecked
import GoSem.Claim
import GoSem.ClaimJoined
import GoSem.ClaimMapViews
import Derived.JoinedTies
import Derived.KernelRfl
namespace Go.Proofs.Qxb6605801a
/- THE CELL 'sum', in the pinned program and in every row, IS THE sha256 OF THE DUMP (.gsa) THAT Qxb6605801aProg.lean LOADS. Nothing in Lean hashes anything: it is a label: what it is worth is what the hold of that sum in a sandbox is worth. -/
noncomputable def Try.pinned : Pinned := { name := "qxb6605801a", sum := "71cc4153c41ab2b5ced5116ea042ca4944b4824990e3eba9858cd9e42e16e37f", checked := Try.checked }
namespace Rows
def none {H : Type} : Left H := { results := [], args := [] }

/-- 'zzlaws_root_b1.FnLexTakeTiles': WHATEVER THE INPUT: true; the input reads as it did. -/
def fnLexTakeTilesSpec : ChangeSpec := { name := "fnLexTakeTiles", fn := fun _ => fun
  | [d1, d2] => { results := [.lit (.bool true)], args := [d1, d2] }
  | _ => none }
def fnLexTakeTilesRow : OpenClaim := { program := "qxb6605801a", sum := "71cc4153c41ab2b5ced5116ea042ca4944b4824990e3eba9858cd9e42e16e37f", func := "example.com/winnow/winnow/zzlaws_root_b1.FnLexTakeTiles", spec := "fnLexTakeTiles", apart := false }
def FnLexTakeTilesSaid : Prop := fnLexTakeTilesRow.holds Try.pinned (OpenSpec.ofChange fnLexTakeTilesSpec)

/-- ITS FALSE NEIGHBOUR: 'it returns false'. Refute it at one input. -/
def fnLexTakeTilesWrong : ChangeSpec := { name := "fnLexTakeTiles", fn := fun _ => fun
  | [d1, d2] => { results := [.lit (.bool false)], args := [d1, d2] }
  | _ => none }
def FnLexTakeTilesWrongFalsely : Prop := fnLexTakeTilesRow.holds Try.pinned (OpenSpec.ofChange fnLexTakeTilesWrong)

end Rows
end Go.Proofs.Qxb6605801a
