/-
  No cell of these rows narrows 'for every input' (looked for: loops, veiled, ifaces, maps, wideKeys, modest, calm, conditions, laid).
  DERIVED. THE GIVEN ROWS OF THIS SEAT. 2 by the template 'for every input the law returns true; each argument reads behind the call as it read before'; 0 by the template 'total and deterministic' (their statements: Qxb6627519aTotals.lean).
  GIVEN WITH THE SEED: the statements are not yours to turn. If you find one false, say at which input.
  Laid BY PROGRAM, IN A SANDBOX (cutbox-rows.mjs): the forced cells as the released guide's own fill.sh prints them over the translation 9cc630b235794d13… (all of the seat's roots in one cut). By AI agents, Wed Nov 11 2026. No macro, syntax, notation, axiom, sorry.
-/
import Derived.Test.Qxb6627519aChecked
import GoSem.Claim
import GoSem.ClaimJoined
import GoSem.ClaimMapViews
import Derived.JoinedTies
import Derived.KernelRfl
namespace Go.Proofs.Qxb6627519a
/- THE CELL 'sum', in the pinned program and in every row, IS THE sha256 OF THE DUMP (.gsa) THAT Qxb6627519aProg.lean LOADS. Nothing in Lean hashes anything: it is a label: what it is worth is what the hold of that sum in a sandbox is worth. -/
noncomputable def Try.pinned : Pinned := { name := "qxb6627519a", sum := "9cc630b235794d13a1ed0e832251acac1c74249fedc6de764a79799231cb68bf", checked := Try.checked }
namespace Rows
def none {H : Type} : Left H := { results := [], args := [] }

/-- 'zzlaws_document_b1.FnSizeGraftAdds': WHATEVER THE INPUT: true; the input reads as it did. -/
def fnSizeGraftAddsSpec : ChangeSpec := { name := "fnSizeGraftAdds", fn := fun _ => fun
  | [d1, d2, d3, d4, d5] => { results := [.lit (.bool true)], args := [d1, d2, d3, d4, d5] }
  | _ => none }
def fnSizeGraftAddsRow : OpenClaim := { program := "qxb6627519a", sum := "9cc630b235794d13a1ed0e832251acac1c74249fedc6de764a79799231cb68bf", func := "example.com/purlin/purlin/zzlaws_document_b1.FnSizeGraftAdds", spec := "fnSizeGraftAdds", recurses := true, apart := false }
def FnSizeGraftAddsSaid : Prop := fnSizeGraftAddsRow.holds Try.pinned (OpenSpec.ofChange fnSizeGraftAddsSpec)

/-- ITS FALSE NEIGHBOUR: 'it returns false'. Refute it at one input. -/
def fnSizeGraftAddsWrong : ChangeSpec := { name := "fnSizeGraftAdds", fn := fun _ => fun
  | [d1, d2, d3, d4, d5] => { results := [.lit (.bool false)], args := [d1, d2, d3, d4, d5] }
  | _ => none }
def FnSizeGraftAddsWrongFalsely : Prop := fnSizeGraftAddsRow.holds Try.pinned (OpenSpec.ofChange fnSizeGraftAddsWrong)

/-- 'zzlaws_document_b1.FnSizeCutSubtracts': WHATEVER THE INPUT: true; the input reads as it did. -/
def fnSizeCutSubtractsSpec : ChangeSpec := { name := "fnSizeCutSubtracts", fn := fun _ => fun
  | [d1, d2, d3] => { results := [.lit (.bool true)], args := [d1, d2, d3] }
  | _ => none }
def fnSizeCutSubtractsRow : OpenClaim := { program := "qxb6627519a", sum := "9cc630b235794d13a1ed0e832251acac1c74249fedc6de764a79799231cb68bf", func := "example.com/purlin/purlin/zzlaws_document_b1.FnSizeCutSubtracts", spec := "fnSizeCutSubtracts", recurses := true, apart := false }
def FnSizeCutSubtractsSaid : Prop := fnSizeCutSubtractsRow.holds Try.pinned (OpenSpec.ofChange fnSizeCutSubtractsSpec)

/-- ITS FALSE NEIGHBOUR: 'it returns false'. Refute it at one input. -/
def fnSizeCutSubtractsWrong : ChangeSpec := { name := "fnSizeCutSubtracts", fn := fun _ => fun
  | [d1, d2, d3] => { results := [.lit (.bool false)], args := [d1, d2, d3] }
  | _ => none }
def FnSizeCutSubtractsWrongFalsely : Prop := fnSizeCutSubtractsRow.holds Try.pinned (OpenSpec.ofChange fnSizeCutSubtractsWrong)

end Rows
end Go.Proofs.Qxb6627519a
