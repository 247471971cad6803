/-
  No cell of these rows narrows 'for every input' (looked for: loops, veiled, ifaces, maps, wideKeys, modest, calm, conditions, laid).
  DERIVED. THE GIVEN ROWS OF THIS SEAT. 2 by the template 'for every input the law returns true; each argument reads behind the call as it read before'; 0 by the template 'total and deterministic' (their statements: Qxb6605943aTotals.lean).
  GIVEN WITH THE SEED: the statements are not yours to turn. If you find one false, say at which input.
  Laid BY PROGRAM, IN A SANDBOX (cutbox-rows.mjs): the forced cells as the released guide's own fill.sh prints them over the translation 67a95da796410f04… (all of the seat's roots in one cut). By AI agents, Wed Nov 11 2026. No macro, syntax, notation, axiom, sorry.
-/
import Derived.Test.Qxb6605943aChecked
import GoSem.Claim
import GoSem.ClaimJoined
import GoSem.ClaimMapViews
import Derived.JoinedTies
import Derived.KernelRfl
namespace Go.Proofs.Qxb6605943a
/- THE CELL 'sum', in the pinned program and in every row, IS THE sha256 OF THE DUMP (.gsa) THAT Qxb6605943aProg.lean LOADS. Nothing in Lean hashes anything: it is a label: what it is worth is what the hold of that sum in a sandbox is worth. -/
noncomputable def Try.pinned : Pinned := { name := "qxb6605943a", sum := "67a95da796410f0481768677f71c614dc0062e3605f6dc89b71f360fa2629740", checked := Try.checked }
namespace Rows
def none {H : Type} : Left H := { results := [], args := [] }

/-- 'zzlaws_pkg_performance_b1.FnSumAppendKeysClosedForm': WHATEVER THE INPUT: true; the input reads as it did. -/
def fnSumAppendKeysClosedFormSpec : ChangeSpec := { name := "fnSumAppendKeysClosedForm", fn := fun _ => fun
  | [d1, d2, d3, d4] => { results := [.lit (.bool true)], args := [d1, d2, d3, d4] }
  | _ => none }
def fnSumAppendKeysClosedFormRow : OpenClaim := { program := "qxb6605943a", sum := "67a95da796410f0481768677f71c614dc0062e3605f6dc89b71f360fa2629740", func := "example.com/vestledger/vestledger/zzlaws_pkg_performance_b1.FnSumAppendKeysClosedForm", spec := "fnSumAppendKeysClosedForm", apart := false }
def FnSumAppendKeysClosedFormSaid : Prop := fnSumAppendKeysClosedFormRow.holds Try.pinned (OpenSpec.ofChange fnSumAppendKeysClosedFormSpec)

/-- ITS FALSE NEIGHBOUR: 'it returns false'. Refute it at one input. -/
def fnSumAppendKeysClosedFormWrong : ChangeSpec := { name := "fnSumAppendKeysClosedForm", fn := fun _ => fun
  | [d1, d2, d3, d4] => { results := [.lit (.bool false)], args := [d1, d2, d3, d4] }
  | _ => none }
def FnSumAppendKeysClosedFormWrongFalsely : Prop := fnSumAppendKeysClosedFormRow.holds Try.pinned (OpenSpec.ofChange fnSumAppendKeysClosedFormWrong)

/-- 'zzlaws_pkg_performance_b1.FnSumAppendKeysSplitAtYear': WHATEVER THE INPUT: true; the input reads as it did. -/
def fnSumAppendKeysSplitAtYearSpec : ChangeSpec := { name := "fnSumAppendKeysSplitAtYear", fn := fun _ => fun
  | [d1, d2, d3, d4, d5] => { results := [.lit (.bool true)], args := [d1, d2, d3, d4, d5] }
  | _ => none }
def fnSumAppendKeysSplitAtYearRow : OpenClaim := { program := "qxb6605943a", sum := "67a95da796410f0481768677f71c614dc0062e3605f6dc89b71f360fa2629740", func := "example.com/vestledger/vestledger/zzlaws_pkg_performance_b1.FnSumAppendKeysSplitAtYear", spec := "fnSumAppendKeysSplitAtYear", apart := false }
def FnSumAppendKeysSplitAtYearSaid : Prop := fnSumAppendKeysSplitAtYearRow.holds Try.pinned (OpenSpec.ofChange fnSumAppendKeysSplitAtYearSpec)

/-- ITS FALSE NEIGHBOUR: 'it returns false'. Refute it at one input. -/
def fnSumAppendKeysSplitAtYearWrong : ChangeSpec := { name := "fnSumAppendKeysSplitAtYear", fn := fun _ => fun
  | [d1, d2, d3, d4, d5] => { results := [.lit (.bool false)], args := [d1, d2, d3, d4, d5] }
  | _ => none }
def FnSumAppendKeysSplitAtYearWrongFalsely : Prop := fnSumAppendKeysSplitAtYearRow.holds Try.pinned (OpenSpec.ofChange fnSumAppendKeysSplitAtYearWrong)

end Rows
end Go.Proofs.Qxb6605943a
