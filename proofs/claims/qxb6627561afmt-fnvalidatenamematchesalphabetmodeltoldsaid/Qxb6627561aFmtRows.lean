/-
  No cell of these rows narrows 'for every input' (looked for: loops, veiled, ifaces, maps, wideKeys, modest, calm, conditions, laid).
  DERIVED. THE GIVEN ROWS OF THIS SEAT. 2 by the template 'for every input the law returns true; each argument reads behind the call as it read before'; 0 by the template 'total and deterministic' (their statements: Qxb6627561aFmtTotals.lean).
  GIVEN WITH THE SEED: the statements are not yours to turn. If you find one false, say at which input.
  Laid BY PROGRAM, IN A SANDBOX (cutbox-rows.mjs): the forced cells as the released guide's own fill.sh prints them over the translation 72968ddd751fffcd… (all of the seat's roots in one cut). By AI agents, Wed Nov 11 2026. No macro, syntax, notation, axiom, sorry.
-/
import Derived.Test.Qxb6627561aFmtChecked
import GoSem.Claim
import GoSem.ClaimJoined
import GoSem.ClaimMapViews
import Derived.JoinedTies
import Derived.KernelRfl
namespace Go.Proofs.Qxb6627561aFmt
/- THE CELL 'sum', in the pinned program and in every row, IS THE sha256 OF THE DUMP (.gsa) THAT Qxb6627561aFmtProg.lean LOADS. Nothing in Lean hashes anything: it is a label: what it is worth is what the hold of that sum in a sandbox is worth. -/
noncomputable def Tryf.pinned : Pinned := { name := "qxb6627561afmt", sum := "72968ddd751fffcd97a0fa4eb7e3791adcb6cf54a3d07c8cf2a624fbb1029dcb", checked := Tryf.checked }
namespace Rows
def none {H : Type} : Left H := { results := [], args := [] }

/-- 'zzlaws_internal_topic_b1.FnValidateNameMatchesAlphabetModel': WHATEVER THE INPUT: true; the input reads as it did. -/
def fnValidateNameMatchesAlphabetModelSpec : ChangeSpec := { name := "fnValidateNameMatchesAlphabetModel", fn := fun _ => fun
  | [d] => { results := [.lit (.bool true)], args := [d] }
  | _ => none }
def fnValidateNameMatchesAlphabetModelRow : OpenClaim := { program := "qxb6627561afmt", sum := "72968ddd751fffcd97a0fa4eb7e3791adcb6cf54a3d07c8cf2a624fbb1029dcb", func := "example.com/tidemark/tidemark/zzlaws_internal_topic_b1.FnValidateNameMatchesAlphabetModel", spec := "fnValidateNameMatchesAlphabetModel", stops := ["fmt.Sprintf"], inPlace := ["fmt.Sprintf"], apart := false }
/-- NO THEOREM (fmt's text is open here; it may be false): for the released tool's asking of the row's closed facts alone. THE STATEMENT IS 'FnValidateNameMatchesAlphabetModelToldSaid' (Qxb6627561aFmtCards.lean). -/
def FnValidateNameMatchesAlphabetModelFormAsk : Prop := fnValidateNameMatchesAlphabetModelRow.holds Tryf.pinned (OpenSpec.ofChange fnValidateNameMatchesAlphabetModelSpec)

/-- ITS FALSE NEIGHBOUR: 'it returns false'. Refute it at one input. -/
def fnValidateNameMatchesAlphabetModelWrong : ChangeSpec := { name := "fnValidateNameMatchesAlphabetModel", fn := fun _ => fun
  | [d] => { results := [.lit (.bool false)], args := [d] }
  | _ => none }
def FnValidateNameMatchesAlphabetModelWrongFormAsk : Prop := fnValidateNameMatchesAlphabetModelRow.holds Tryf.pinned (OpenSpec.ofChange fnValidateNameMatchesAlphabetModelWrong)

/-- 'zzlaws_internal_topic_b1.FnValidateNameCutAgreement': WHATEVER THE INPUT: true; the input reads as it did. -/
def fnValidateNameCutAgreementSpec : ChangeSpec := { name := "fnValidateNameCutAgreement", fn := fun _ => fun
  | [d1, d2] => { results := [.lit (.bool true)], args := [d1, d2] }
  | _ => none }
def fnValidateNameCutAgreementRow : OpenClaim := { program := "qxb6627561afmt", sum := "72968ddd751fffcd97a0fa4eb7e3791adcb6cf54a3d07c8cf2a624fbb1029dcb", func := "example.com/tidemark/tidemark/zzlaws_internal_topic_b1.FnValidateNameCutAgreement", spec := "fnValidateNameCutAgreement", stops := ["fmt.Sprintf"], inPlace := ["fmt.Sprintf"], apart := false }
/-- NO THEOREM (fmt's text is open here; it may be false): for the released tool's asking of the row's closed facts alone. THE STATEMENT IS 'FnValidateNameCutAgreementToldSaid' (Qxb6627561aFmtCards.lean). -/
def FnValidateNameCutAgreementFormAsk : Prop := fnValidateNameCutAgreementRow.holds Tryf.pinned (OpenSpec.ofChange fnValidateNameCutAgreementSpec)

/-- ITS FALSE NEIGHBOUR: 'it returns false'. Refute it at one input. -/
def fnValidateNameCutAgreementWrong : ChangeSpec := { name := "fnValidateNameCutAgreement", fn := fun _ => fun
  | [d1, d2] => { results := [.lit (.bool false)], args := [d1, d2] }
  | _ => none }
def FnValidateNameCutAgreementWrongFormAsk : Prop := fnValidateNameCutAgreementRow.holds Tryf.pinned (OpenSpec.ofChange fnValidateNameCutAgreementWrong)

end Rows
end Go.Proofs.Qxb6627561aFmt
