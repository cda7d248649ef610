/-
  No cell of these rows narrows 'for every input' (looked for: loops, veiled, ifaces, maps, wideKeys, modest, calm, conditions, laid).
  DERIVED. THE GIVEN ROWS OF THIS SEAT. 2 by the template 'for every input the law returns true; each argument reads behind the call as it read before'; 0 by the template 'total and deterministic' (their statements: Qxb6627611aTotals.lean).
  GIVEN WITH THE SEED: the statements are not yours to turn. If you find one false, say at which input.
  Laid BY PROGRAM, IN A SANDBOX (cutbox-rows.mjs): the forced cells as the released guide's own fill.sh prints them over the translation 5fae0f5f8be755a0… (all of the seat's roots in one cut). By AI agents, Wed Nov 11 2026. No macro, syntax, notation, axiom, sorry.
-/
import Derived.Test.Qxb6627611aChecked
import GoSem.Claim
import GoSem.ClaimJoined
import GoSem.ClaimMapViews
import Derived.JoinedTies
import Derived.KernelRfl
namespace Go.Proofs.Qxb6627611a
/- THE CELL 'sum', in the pinned program and in every row, IS THE sha256 OF THE DUMP (.gsa) THAT Qxb6627611aProg.lean LOADS. Nothing in Lean hashes anything: it is a label: what it is worth is what the hold of that sum in a sandbox is worth. -/
noncomputable def Try.pinned : Pinned := { name := "qxb6627611a", sum := "5fae0f5f8be755a062e5fdbe03e0265af92a85a831884ce11a8401aa6757134a", checked := Try.checked }
namespace Rows
def none {H : Type} : Left H := { results := [], args := [] }

/-- 'zzlaws_rule_b1.FnIsNameCutAnywhere': WHATEVER THE INPUT: true; the input reads as it did. -/
def fnIsNameCutAnywhereSpec : ChangeSpec := { name := "fnIsNameCutAnywhere", fn := fun _ => fun
  | [d1, d2] => { results := [.lit (.bool true)], args := [d1, d2] }
  | _ => none }
def fnIsNameCutAnywhereRow : OpenClaim := { program := "qxb6627611a", sum := "5fae0f5f8be755a062e5fdbe03e0265af92a85a831884ce11a8401aa6757134a", func := "example.com/winnowline/winnowline/zzlaws_rule_b1.FnIsNameCutAnywhere", spec := "fnIsNameCutAnywhere", apart := false }
def FnIsNameCutAnywhereSaid : Prop := fnIsNameCutAnywhereRow.holds Try.pinned (OpenSpec.ofChange fnIsNameCutAnywhereSpec)

/-- ITS FALSE NEIGHBOUR: 'it returns false'. Refute it at one input. -/
def fnIsNameCutAnywhereWrong : ChangeSpec := { name := "fnIsNameCutAnywhere", fn := fun _ => fun
  | [d1, d2] => { results := [.lit (.bool false)], args := [d1, d2] }
  | _ => none }
def FnIsNameCutAnywhereWrongFalsely : Prop := fnIsNameCutAnywhereRow.holds Try.pinned (OpenSpec.ofChange fnIsNameCutAnywhereWrong)

/-- 'zzlaws_rule_b1.FnIsNameInsertOneByte': WHATEVER THE INPUT: true; the input reads as it did. -/
def fnIsNameInsertOneByteSpec : ChangeSpec := { name := "fnIsNameInsertOneByte", fn := fun _ => fun
  | [d1, d2, d3] => { results := [.lit (.bool true)], args := [d1, d2, d3] }
  | _ => none }
def fnIsNameInsertOneByteRow : OpenClaim := { program := "qxb6627611a", sum := "5fae0f5f8be755a062e5fdbe03e0265af92a85a831884ce11a8401aa6757134a", func := "example.com/winnowline/winnowline/zzlaws_rule_b1.FnIsNameInsertOneByte", spec := "fnIsNameInsertOneByte", apart := false }
def FnIsNameInsertOneByteSaid : Prop := fnIsNameInsertOneByteRow.holds Try.pinned (OpenSpec.ofChange fnIsNameInsertOneByteSpec)

/-- ITS FALSE NEIGHBOUR: 'it returns false'. Refute it at one input. -/
def fnIsNameInsertOneByteWrong : ChangeSpec := { name := "fnIsNameInsertOneByte", fn := fun _ => fun
  | [d1, d2, d3] => { results := [.lit (.bool false)], args := [d1, d2, d3] }
  | _ => none }
def FnIsNameInsertOneByteWrongFalsely : Prop := fnIsNameInsertOneByteRow.holds Try.pinned (OpenSpec.ofChange fnIsNameInsertOneByteWrong)

end Rows
end Go.Proofs.Qxb6627611a
