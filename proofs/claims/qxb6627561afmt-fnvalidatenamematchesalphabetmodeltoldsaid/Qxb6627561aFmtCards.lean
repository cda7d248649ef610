/-
  DERIVED. GIVEN WITH THE SEED: THE CARDS: each row of Qxb6627561aFmtRows.lean that lists a variable, with what it lists TIED to the program's text (the seventh form; the later family's looks); each row that meets fmt, with fmt's text TOLD by the authors' own Lean function (tested against real Go, not proved from fmt's source: count such statements apart). THE CARD IS WHAT COUNTS. Prove the row's statement (the work); the ties are given (Qxb6627561aFmtTie.lean); close each card by the builder's one call (the guide's Derived/Test/ToyasCard.lean, 'card_holds'). Laid BY PROGRAM, IN A SANDBOX (cutbox-door.mjs). By AI agents, Wed Nov 11 2026. No macro, syntax, notation, axiom, sorry.
-/
import Derived.Test.Qxb6627561aFmtRows
import GoSem.ClaimSeven
namespace Go.Proofs.Qxb6627561aFmt
namespace Rows

/-- THE TOLD CARD OF 'zzlaws_internal_topic_b1.FnValidateNameMatchesAlphabetModel'. -/
def fnValidateNameMatchesAlphabetModelCard : Claim7 := { stood := { row := fnValidateNameMatchesAlphabetModelRow, standIns := [], harness := (true, "747c208aa9d55fd92af837edf2af06f523ffde33c15df021652eeded837109d0"), looks := true }, told := true, goes := false }
def FnValidateNameMatchesAlphabetModelToldSaid : Prop := Claim7.holds Tryf.pinned (.plain (OpenSpec.ofChange fnValidateNameMatchesAlphabetModelSpec)) fnValidateNameMatchesAlphabetModelCard
/-- ITS FALSE NEIGHBOUR. Refute it at one input. -/
def FnValidateNameMatchesAlphabetModelToldWrongFalsely : Prop := Claim7.holds Tryf.pinned (.plain (OpenSpec.ofChange fnValidateNameMatchesAlphabetModelWrong)) fnValidateNameMatchesAlphabetModelCard

/-- THE TOLD CARD OF 'zzlaws_internal_topic_b1.FnValidateNameCutAgreement'. -/
def fnValidateNameCutAgreementCard : Claim7 := { stood := { row := fnValidateNameCutAgreementRow, standIns := [], harness := (true, "747c208aa9d55fd92af837edf2af06f523ffde33c15df021652eeded837109d0"), looks := true }, told := true, goes := false }
def FnValidateNameCutAgreementToldSaid : Prop := Claim7.holds Tryf.pinned (.plain (OpenSpec.ofChange fnValidateNameCutAgreementSpec)) fnValidateNameCutAgreementCard
/-- ITS FALSE NEIGHBOUR. Refute it at one input. -/
def FnValidateNameCutAgreementToldWrongFalsely : Prop := Claim7.holds Tryf.pinned (.plain (OpenSpec.ofChange fnValidateNameCutAgreementWrong)) fnValidateNameCutAgreementCard
end Rows
end Go.Proofs.Qxb6627561aFmt
