/-
  DERIVED. GIVEN WITH THE SEED: THE CARDS: each row of Qxb6605920aFmtRows.lean that lists a variable, with what it lists TIED to the program's text (the seventh form; the later family's looks); each row that meets fmt, with fmt's text TOLD by the authors' own Lean function (tested against real Go, not proved from fmt's source: count such statements apart). THE CARD IS WHAT COUNTS. Prove the row's statement (the work); the ties are given (Qxb6605920aFmtTie.lean); close each card by the builder's one call (the guide's Derived/Test/ToyasCard.lean, 'card_holds'). Laid BY PROGRAM, IN A SANDBOX (cutbox-door.mjs). By AI agents, Wed Nov 11 2026. No macro, syntax, notation, axiom, sorry.
-/
import Derived.Test.Qxb6605920aFmtRows
import GoSem.ClaimSeven
namespace Go.Proofs.Qxb6605920aFmt
namespace Rows

/-- THE TOLD CARD OF 'zzlaws_internal_config_b1.FnAdminAndAlertsTokensAgree'. -/
def fnAdminAndAlertsTokensAgreeCard : Claim7 := { stood := { row := fnAdminAndAlertsTokensAgreeRow, standIns := [], harness := (true, "70512a83287aa4a52db36cc03153ecba962eef27a2d980858609da18f7042be7"), looks := false }, told := true, goes := false }
def FnAdminAndAlertsTokensAgreeToldSaid : Prop := Claim7.holds Tryf.pinned (.plain (OpenSpec.ofChange fnAdminAndAlertsTokensAgreeSpec)) fnAdminAndAlertsTokensAgreeCard
/-- ITS FALSE NEIGHBOUR. Refute it at one input. -/
def FnAdminAndAlertsTokensAgreeToldWrongFalsely : Prop := Claim7.holds Tryf.pinned (.plain (OpenSpec.ofChange fnAdminAndAlertsTokensAgreeWrong)) fnAdminAndAlertsTokensAgreeCard

/-- THE TOLD CARD OF 'zzlaws_internal_config_b1.FnRequiredTable'. -/
def fnRequiredTableCard : Claim7 := { stood := { row := fnRequiredTableRow, standIns := [], harness := (true, "70512a83287aa4a52db36cc03153ecba962eef27a2d980858609da18f7042be7"), looks := false }, told := true, goes := false }
def FnRequiredTableToldSaid : Prop := Claim7.holds Tryf.pinned (.plain (OpenSpec.ofChange fnRequiredTableSpec)) fnRequiredTableCard
/-- ITS FALSE NEIGHBOUR. Refute it at one input. -/
def FnRequiredTableToldWrongFalsely : Prop := Claim7.holds Tryf.pinned (.plain (OpenSpec.ofChange fnRequiredTableWrong)) fnRequiredTableCard

/-- THE TOLD CARD OF 'zzlaws_internal_config_b1.FnRequiredScript'. -/
def fnRequiredScriptCard : Claim7 := { stood := { row := fnRequiredScriptRow, standIns := [], harness := (true, "70512a83287aa4a52db36cc03153ecba962eef27a2d980858609da18f7042be7"), looks := false }, told := true, goes := false }
def FnRequiredScriptToldSaid : Prop := Claim7.holds Tryf.pinned (.plain (OpenSpec.ofChange fnRequiredScriptSpec)) fnRequiredScriptCard
/-- ITS FALSE NEIGHBOUR. Refute it at one input. -/
def FnRequiredScriptToldWrongFalsely : Prop := Claim7.holds Tryf.pinned (.plain (OpenSpec.ofChange fnRequiredScriptWrong)) fnRequiredScriptCard
end Rows
end Go.Proofs.Qxb6605920aFmt
