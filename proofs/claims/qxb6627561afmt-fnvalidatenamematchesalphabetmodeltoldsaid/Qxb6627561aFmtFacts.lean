import Derived.Test.Qxb6627561aFmtRows
import Derived.Stop.CallBack
import Derived.Stop.IfaceNil
import GoSem.ClaimData
import Derived.WalkKit
import Derived.WalkSpells
import Derived.WalkLawsBesides
namespace Go.Proofs.Qxb6627561aFmt
open Go.Extern.Stop Go.Stop Go.Extern Go.RowKit

theorem own : ownKnob Tryf.prog.godebug = none := by kernel_rfl

/-! ### fmt.Sprintf (function 12): the closed facts for a walk over the stopped front -/
theorem call12 (args : Array Value) (w : World) : (callFunc 12 args).run Tryf.prog w = ((FmtStop.sprintf #[9, 52] #[9] args).run Tryf.prog w).andThen fun v w' => .ok (.value v) w' :=
  run_callFunc_extern Tryf.func12 (by kernel_rfl) (by kernel_rfl) (by kernel_rfl) (by kernel_rfl) args w
theorem guard (name : String) (w : World) : (FmtStop.guard name).run Tryf.prog w = .ok () w := by kernel_rfl
theorem fmtA? : FmtStop.printed? ⟨#[99, 104, 97, 114, 97, 99, 116, 101, 114, 32, 37, 113, 32, 97, 116, 32, 98, 121, 116, 101, 32, 37, 100, 32, 105, 115, 32, 110, 111, 116, 32, 97, 110, 32, 65, 83, 67, 73, 73, 32, 108, 101, 116, 116, 101, 114, 32, 111, 114, 32, 100, 105, 103, 105, 116, 44, 32, 39, 46, 39, 44, 32, 39, 95, 39, 32, 111, 114, 32, 39, 45, 39]⟩ 2 = some [(0, 113, false), (1, 100, false)] := by kernel_rfl
theorem fmtB? : FmtStop.printed? ⟨#[105, 116, 32, 104, 97, 115, 32, 37, 100, 32, 99, 104, 97, 114, 97, 99, 116, 101, 114, 115, 44, 32, 109, 111, 114, 101, 32, 116, 104, 97, 110, 32, 37, 100]⟩ 2 = some [(0, 100, false), (1, 100, false)] := by kernel_rfl
def shape3 : List UInt8 := [5, 3, 0, 0, 0, 0, 0, 0, 0, 105, 110, 116]
theorem op3_100 (name : String) (x : Int) (w : World) : (FmtStop.operand name false 100 false (.iface 3 (.int .i64 x))).run Tryf.prog w = .ok (shape3, digits 8 (x % 2 ^ 64).toNat) w := by kernel_rfl
def shape21 : List UInt8 := [4, 5, 0, 0, 0, 0, 0, 0, 0, 105, 110, 116, 51, 50]
theorem op21_113 (name : String) (x : Int) (w : World) : (FmtStop.operand name false 113 false (.iface 21 (.int .i32 x))).run Tryf.prog w = .ok (shape21, digits 8 (x % 2 ^ 64).toNat) w := by kernel_rfl

attribute [local go_sem] guard fmtA? fmtB? op3_100 op21_113

set_option maxHeartbeats 400000 in
/-- 'it has %d characters, more than %d': some text, whatever the tape answers; one draw. -/
theorem spr_len (a b : Int) (blk : Nat) (w : World)
    (hc0 : w.cell? ⟨blk, 0, none⟩ = some (.iface 3 (.int .i64 a))) (hc1 : w.cell? ⟨blk, 1, none⟩ = some (.iface 3 (.int .i64 b))) :
    ∃ s, (callFunc 12 #[.string ⟨#[105, 116, 32, 104, 97, 115, 32, 37, 100, 32, 99, 104, 97, 114, 97, 99, 116, 101, 114, 115, 44, 32, 109, 111, 114, 101, 32, 116, 104, 97, 110, 32, 37, 100]⟩, .slice (some ⟨blk, 0, none⟩) 2 2]).run Tryf.prog w = .ok (.value (.string s)) w.drew := by
  simp only [call12]
  go_simp

set_option maxHeartbeats 400000 in
/-- 'character %q at byte %d ..': some text, whatever the tape answers; one draw. -/
theorem spr_chr (a b : Int) (blk : Nat) (w : World)
    (hc0 : w.cell? ⟨blk, 0, none⟩ = some (.iface 21 (.int .i32 a))) (hc1 : w.cell? ⟨blk, 1, none⟩ = some (.iface 3 (.int .i64 b))) :
    ∃ s, (callFunc 12 #[.string ⟨#[99, 104, 97, 114, 97, 99, 116, 101, 114, 32, 37, 113, 32, 97, 116, 32, 98, 121, 116, 101, 32, 37, 100, 32, 105, 115, 32, 110, 111, 116, 32, 97, 110, 32, 65, 83, 67, 73, 73, 32, 108, 101, 116, 116, 101, 114, 32, 111, 114, 32, 100, 105, 103, 105, 116, 44, 32, 39, 46, 39, 44, 32, 39, 95, 39, 32, 111, 114, 32, 39, 45, 39]⟩, .slice (some ⟨blk, 0, none⟩) 2 2]).run Tryf.prog w = .ok (.value (.string s)) w.drew := by
  simp only [call12]
  go_simp

end Go.Proofs.Qxb6627561aFmt
