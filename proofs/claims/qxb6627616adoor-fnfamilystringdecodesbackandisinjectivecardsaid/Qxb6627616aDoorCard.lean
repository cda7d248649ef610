import Derived.Test.Qxb6627616aDoorRow
import Derived.Test.Qxb6627616aDoorTie
import Derived.Test.Qxb6627616aDoorCards
import Derived.SevenTiedAt
namespace Go.Proofs.Qxb6627616aDoor
open Go

theorem fnFamilyStringDecodesBackAndIsInjective_card : Rows.FnFamilyStringDecodesBackAndIsInjectiveCardSaid :=
  Claim7.holds_tied_plain_at .later [] [.data, .data, .data] true (true, "46793f2a9573dbd8b2a22534ef00b336a6ba3d092d1d95fade666be611b0f071") false
    fnFamilyStringDecodesBackAndIsInjective_row (fun _ h => by cases h) (by kernel_rfl) (fun _ h => by cases h) fnFamilyStringDecodesBackAndIsInjective_row_tie rfl ⟨rfl, rfl⟩ (by kernel_rfl) rfl
    (fun f fn hf hfn => by
      obtain rfl : f = 3 := Option.some.inj ((show Tryd.prog.funcNamed "example.com/bendpoint/bendpoint/zzlaws_internal_audit_b1.FnFamilyStringDecodesBackAndIsInjective" = some 3 by kernel_rfl).symm.trans hf) |>.symm
      obtain rfl : fn = Tryd.f3 := (Option.some.inj (Tryd.func3.symm.trans hfn)).symm
      exact ⟨by kernel_rfl, fun j t ht => by
        rw [Tryd.params3] at ht
        have hm : t ∈ [22, 22] := by simpa using Array.mem_of_getElem? ht
        have hall : ([22, 22].all fun u => !Tryd.prog.wantsStandIn u) = true := by kernel_rfl
        exact (show Tryd.prog.wantsStandIn t = false by simpa using List.all_eq_true.1 hall t hm)⟩)
    (by kernel_rfl)
end Go.Proofs.Qxb6627616aDoor
