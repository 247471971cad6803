/-
  No cell of these rows narrows 'for every input' (looked for: loops, veiled, ifaces, maps, wideKeys, modest, calm, conditions, laid).
  DERIVED. THE GIVEN ROWS OF THIS SEAT. 3 by the template 'for every input the law returns true; each argument reads behind the call as it read before'; 0 by the template 'total and deterministic' (their statements: Qxb6605920aFmtTotals.lean).
  GIVEN WITH THE SEED: the statements are not yours to turn. If you find one false, say at which input.
  Laid BY PROGRAM, IN A SANDBOX (cutbox-rows.mjs): the forced cells as the released guide's own fill.sh prints them over the translation 5942ef47d4c89463… (all of the seat's roots in one cut). By AI agents, Wed Nov 11 2026. No macro, syntax, notation, axiom, sorry.
-/
import Derived.Test.Qxb6605920aFmtChecked
import GoSem.Claim
import GoSem.ClaimJoined
import GoSem.ClaimMapViews
import Derived.JoinedTies
import Derived.KernelRfl
namespace Go.Proofs.Qxb6605920aFmt
/- THE CELL 'sum', in the pinned program and in every row, IS THE sha256 OF THE DUMP (.gsa) THAT Qxb6605920aFmtProg.lean LOADS. Nothing in Lean hashes anything: it is a label: what it is worth is what the hold of that sum in a sandbox is worth. -/
noncomputable def Tryf.pinned : Pinned := { name := "qxb6605920afmt", sum := "5942ef47d4c89463edc26e99a625013150152047ed54235f9fe8ec06aea3e630", checked := Tryf.checked }
namespace Rows
def none {H : Type} : Left H := { results := [], args := [] }

/-- 'zzlaws_internal_config_b1.FnAdminAndAlertsTokensAgree': WHATEVER THE INPUT: true; the input reads as it did. -/
def fnAdminAndAlertsTokensAgreeSpec : ChangeSpec := { name := "fnAdminAndAlertsTokensAgree", fn := fun _ => fun
  | [d1, d2, d3, d4] => { results := [.lit (.bool true)], args := [d1, d2, d3, d4] }
  | _ => none }
def fnAdminAndAlertsTokensAgreeRow : OpenClaim := { program := "qxb6605920afmt", sum := "5942ef47d4c89463edc26e99a625013150152047ed54235f9fe8ec06aea3e630", func := "example.com/model-rollout-router/model-rollout-router/zzlaws_internal_config_b1.FnAdminAndAlertsTokensAgree", spec := "fnAdminAndAlertsTokensAgree", stops := ["fmt.errorf", "fmt.Sprintf, its operands' methods called"], inPlace := ["fmt.errorf"], unfollowed := true, recurses := true, plainKeys := false, apart := false }
/-- NO THEOREM (fmt's text is open here; it may be false): for the released tool's asking of the row's closed facts alone. THE STATEMENT IS 'FnAdminAndAlertsTokensAgreeToldSaid' (Qxb6605920aFmtCards.lean). -/
def FnAdminAndAlertsTokensAgreeFormAsk : Prop := fnAdminAndAlertsTokensAgreeRow.holds Tryf.pinned (OpenSpec.ofChange fnAdminAndAlertsTokensAgreeSpec)

/-- ITS FALSE NEIGHBOUR: 'it returns false'. Refute it at one input. -/
def fnAdminAndAlertsTokensAgreeWrong : ChangeSpec := { name := "fnAdminAndAlertsTokensAgree", fn := fun _ => fun
  | [d1, d2, d3, d4] => { results := [.lit (.bool false)], args := [d1, d2, d3, d4] }
  | _ => none }
def FnAdminAndAlertsTokensAgreeWrongFormAsk : Prop := fnAdminAndAlertsTokensAgreeRow.holds Tryf.pinned (OpenSpec.ofChange fnAdminAndAlertsTokensAgreeWrong)

/-- 'zzlaws_internal_config_b1.FnRequiredTable': WHATEVER THE INPUT: true; the input reads as it did. -/
def fnRequiredTableSpec : ChangeSpec := { name := "fnRequiredTable", fn := fun _ => fun
  | [d1, d2, d3, d4] => { results := [.lit (.bool true)], args := [d1, d2, d3, d4] }
  | _ => none }
def fnRequiredTableRow : OpenClaim := { program := "qxb6605920afmt", sum := "5942ef47d4c89463edc26e99a625013150152047ed54235f9fe8ec06aea3e630", func := "example.com/model-rollout-router/model-rollout-router/zzlaws_internal_config_b1.FnRequiredTable", spec := "fnRequiredTable", stops := ["fmt.errorf", "fmt.Sprintf, its operands' methods called"], inPlace := ["fmt.Sprintf", "fmt.errorf"], unfollowed := true, recurses := true, plainKeys := false, apart := false }
/-- NO THEOREM (fmt's text is open here; it may be false): for the released tool's asking of the row's closed facts alone. THE STATEMENT IS 'FnRequiredTableToldSaid' (Qxb6605920aFmtCards.lean). -/
def FnRequiredTableFormAsk : Prop := fnRequiredTableRow.holds Tryf.pinned (OpenSpec.ofChange fnRequiredTableSpec)

/-- ITS FALSE NEIGHBOUR: 'it returns false'. Refute it at one input. -/
def fnRequiredTableWrong : ChangeSpec := { name := "fnRequiredTable", fn := fun _ => fun
  | [d1, d2, d3, d4] => { results := [.lit (.bool false)], args := [d1, d2, d3, d4] }
  | _ => none }
def FnRequiredTableWrongFormAsk : Prop := fnRequiredTableRow.holds Tryf.pinned (OpenSpec.ofChange fnRequiredTableWrong)

/-- 'zzlaws_internal_config_b1.FnRequiredScript': WHATEVER THE INPUT: true; the input reads as it did. -/
def fnRequiredScriptSpec : ChangeSpec := { name := "fnRequiredScript", fn := fun _ => fun
  | [d1, d2, d3] => { results := [.lit (.bool true)], args := [d1, d2, d3] }
  | _ => none }
def fnRequiredScriptRow : OpenClaim := { program := "qxb6605920afmt", sum := "5942ef47d4c89463edc26e99a625013150152047ed54235f9fe8ec06aea3e630", func := "example.com/model-rollout-router/model-rollout-router/zzlaws_internal_config_b1.FnRequiredScript", spec := "fnRequiredScript", stops := ["fmt.errorf", "fmt.Sprintf, its operands' methods called"], inPlace := ["fmt.Sprintf", "fmt.errorf"], unfollowed := true, recurses := true, plainKeys := false, apart := false }
/-- NO THEOREM (fmt's text is open here; it may be false): for the released tool's asking of the row's closed facts alone. THE STATEMENT IS 'FnRequiredScriptToldSaid' (Qxb6605920aFmtCards.lean). -/
def FnRequiredScriptFormAsk : Prop := fnRequiredScriptRow.holds Tryf.pinned (OpenSpec.ofChange fnRequiredScriptSpec)

/-- ITS FALSE NEIGHBOUR: 'it returns false'. Refute it at one input. -/
def fnRequiredScriptWrong : ChangeSpec := { name := "fnRequiredScript", fn := fun _ => fun
  | [d1, d2, d3] => { results := [.lit (.bool false)], args := [d1, d2, d3] }
  | _ => none }
def FnRequiredScriptWrongFormAsk : Prop := fnRequiredScriptRow.holds Tryf.pinned (OpenSpec.ofChange fnRequiredScriptWrong)

end Rows
end Go.Proofs.Qxb6605920aFmt
