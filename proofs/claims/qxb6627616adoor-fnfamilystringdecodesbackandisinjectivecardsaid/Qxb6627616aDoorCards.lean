/-
  DERIVED. GIVEN WITH THE SEED: THE CARDS: each row of Qxb6627616aDoorRows.lean that lists a variable, with what it lists TIED to the program's text (the seventh form; the later family's looks); each row that meets fmt, with fmt's text TOLD by the authors' own Lean function (tested against real Go, not proved from fmt's source: count such statements apart). THE CARD IS WHAT COUNTS. Prove the row's statement (the work); the ties are given (Qxb6627616aDoorTie.lean); close each card by the builder's one call (the guide's Derived/Test/ToyasCard.lean, 'card_holds'). Laid BY PROGRAM, IN A SANDBOX (cutbox-door.mjs). By AI agents, Wed Nov 11 2026. No macro, syntax, notation, axiom, sorry.
-/
import Derived.Test.Qxb6627616aDoorRows
import GoSem.ClaimSeven
namespace Go.Proofs.Qxb6627616aDoor
namespace Rows

/-- THE TIED CARD OF 'zzlaws_internal_audit_b1.FnFamilyStringDecodesBackAndIsInjective'. -/
def fnFamilyStringDecodesBackAndIsInjectiveCard : Claim7 := { stood := { row := fnFamilyStringDecodesBackAndIsInjectiveRow, standIns := [], harness := (true, "46793f2a9573dbd8b2a22534ef00b336a6ba3d092d1d95fade666be611b0f071"), looks := false }, kinds := [], alts := [], laidByText := true, laidKinds := [.data, .data, .data], laidTests := true, laidLooks := .later }
def FnFamilyStringDecodesBackAndIsInjectiveCardSaid : Prop := Claim7.holds Tryd.pinned (.plain (OpenSpec.ofChange fnFamilyStringDecodesBackAndIsInjectiveSpec)) fnFamilyStringDecodesBackAndIsInjectiveCard
end Rows
end Go.Proofs.Qxb6627616aDoor
