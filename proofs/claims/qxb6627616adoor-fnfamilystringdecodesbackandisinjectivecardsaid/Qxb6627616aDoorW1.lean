import Derived.Test.Qxb6627616aDoorRows
import Derived.Test.Qxb6627616aDoorShelf
import Derived.WalkKit
import Derived.WalkSpells
import Derived.WalkLawsBesides
import Derived.Below
import Derived.Lib.AppendIntMem
import Derived.Lib.ItoaLen
namespace Go.Proofs.Qxb6627616aDoor
open Go.RowKit

theorem own : ownKnob Tryd.prog.godebug = none := by kernel_rfl
theorem hid {p : Prop} (h : p) : Hid p := h

/-- The family's text. -/
def fstr (a : Int) : ByteArray :=
  if a = 1 then ⟨#[105, 112, 118, 52]⟩ else if a = 2 then ⟨#[105, 112, 118, 54]⟩ else ⟨#[70, 97, 109, 105, 108, 121, 40]⟩ ++ ⟨(Lib.itoa a).toArray⟩ ++ ⟨#[41]⟩

abbrev Tab (w : World) : Prop := Lib.TabIs Tryd.prog w "internal/strconv.uint64pow10" .u64 Lib.pow10Tab

set_option maxHeartbeats 1000000 in
theorem string_any (a : Int) (h0 : -9223372036854775808 ≤ a) (h1 : a ≤ 9223372036854775807) (w : World) (htab : Tab w) :
    Calls Tryd.prog 4 #[.int .i64 a] w fun e w' => e = .returned (.string (fstr a)) ∧ Below w.heap.size w w' := by
  by_cases e1 : a = 1
  · subst e1
    go_enter Tryd.func4, Tryd.ntmps4
    go_wp2
    go_ret
    exact ⟨rfl, Below.refl _ _⟩
  · by_cases e2 : a = 2
    · subst e2
      go_enter Tryd.func4, Tryd.ntmps4
      go_wp2
      go_ret
      exact ⟨rfl, Below.refl _ _⟩
    · have HE := hid (show fstr a = ⟨#[70, 97, 109, 105, 108, 121, 40]⟩ ++ ⟨(Lib.itoa a).toArray⟩ ++ ⟨#[41]⟩ by unfold fstr; rw [if_neg e1, if_neg e2])
      have H := hid (⟨h0, h1, htab⟩ : -9223372036854775808 ≤ a ∧ a ≤ 9223372036854775807 ∧ Tab w)
      have b1 : (a == 1) = false := beq_eq_false_iff_ne.2 e1
      have b2 : (a == 2) = false := beq_eq_false_iff_ne.2 e2
      have hl := Lib.itoa_length_le a h0 h1
      clear e1 e2 h0 h1 htab
      go_enter Tryd.func4, Tryd.ntmps4
      go_wp2_with fail
      refine (Tryd.strconv_Itoa a H.out.1 H.out.2.1 _ H.out.2.2).mono ?_
      rintro e w1 ⟨rfl, k, os, hw⟩
      have hb : Hid (Below w.heap.size w w1) := by rw [hw]; exact Lib.below_grow _ _ (Nat.le_refl _) k os
      clear hw
      go_wp2_with fail
      go_ret
      exact ⟨by rw [HE.out]; rfl, hb.out⟩
end Go.Proofs.Qxb6627616aDoor
