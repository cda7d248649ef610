import Derived.Test.Qxb6627561aFmtW3
import Derived.BigQuiet
import Derived.Deep.QuietTactic
namespace Go.Proofs.Qxb6627561aFmt
open Go.RowKit

set_option maxHeartbeats 1000000 in
theorem fields_ok (s : ByteArray) (w : World) (hs : s.size ≤ 1048576) (h : okName s = true) :
    Calls Tryf.prog 6 #[.string s] w fun e w' => e = .returned (.tuple #[.bool false, .bool false, .string ⟨#[]⟩]) ∧ Below w.heap.size w w' := by
  go_enter Tryf.func6, Tryf.ntmps6
  go_wp2_with fail
  refine (validate_ok _ _ hs h).mono ?_
  rintro e w1 ⟨rfl, hb1⟩
  go_wp2_with fail
  go_ret3
  exact ⟨rfl, hb1⟩

theorem assert29 (v : Value) (w : World) : (Instr.typeAssert (.iface 29 v) 27 29 true).run Tryf.prog w = .ok (.tuple #[v, .bool true]) w := by kernel_rfl

set_option maxHeartbeats 1000000 in
theorem fields_bad (s : ByteArray) (w : World) (hs : s.size ≤ 1048576) (h : okName s = false) :
    Calls Tryf.prog 6 #[.string s] w fun e w' => e = .returned (.tuple #[.bool true, .bool true, .string s]) ∧ Below w.heap.size w w' := by
  go_enter Tryf.func6, Tryf.ntmps6
  go_wp2_with fail
  refine (validate_bad _ _ hs h).mono ?_
  rintro e w1 ⟨b1, rfl, hc1, hb1⟩
  have H1 := hid hb1
  clear hb1
  have ha := assert29 (.pointer (some ⟨b1, 0, none⟩)) w1
  go_wp2_with fail
  go_quiet (fail)
  go_wp2_with fail
  go_ret3
  exact ⟨rfl, H1.out.trans (by exact ⟨rfl, rfl, rfl, Nat.le_refl _, fun _ _ => rfl⟩)⟩

/-! ### The law of the alphabet -/
set_option maxHeartbeats 1000000 in
theorem alpha_ok (s : ByteArray) (w : World) (hs : s.size ≤ 1048576) (h : okName s = true) :
    Calls Tryf.prog 3 #[.string s] w fun e w' => e = .returned (.bool true) ∧ Below w.heap.size w w' := by
  have hd : decide (s.size ≤ 1048576) = true := decide_eq_true hs
  go_enter Tryf.func3, Tryf.ntmps3
  go_wp2_with fail
  refine (bytesM_any _ _).mono ?_
  rintro e w1 ⟨rfl, hw⟩; replace hw := hw.symm; subst hw
  go_wp2_with fail
  refine (fields_ok _ _ hs h).mono ?_
  rintro e w1 ⟨rfl, hb1⟩
  have H1 := hid hb1
  clear hb1
  go_wp2_with fail
  refine (nameOK_any _ _).mono ?_
  rintro e w2 ⟨rfl, hw⟩; replace hw := hw.symm; subst hw
  go_wp2_with fail
  go_ret
  exact ⟨rfl, H1.out⟩

set_option maxHeartbeats 1000000 in
theorem alpha_bad (s : ByteArray) (w : World) (hs : s.size ≤ 1048576) (h : okName s = false) :
    Calls Tryf.prog 3 #[.string s] w fun e w' => e = .returned (.bool true) ∧ Below w.heap.size w w' := by
  have hd : decide (s.size ≤ 1048576) = true := decide_eq_true hs
  go_enter Tryf.func3, Tryf.ntmps3
  go_wp2_with fail
  refine (bytesM_any _ _).mono ?_
  rintro e w1 ⟨rfl, hw⟩; replace hw := hw.symm; subst hw
  go_wp2_with fail
  refine (fields_bad _ _ hs h).mono ?_
  rintro e w1 ⟨rfl, hb1⟩
  have H1 := hid hb1
  clear hb1
  go_wp2_with fail
  refine (nameOK_any _ _).mono ?_
  rintro e w2 ⟨rfl, hw⟩; replace hw := hw.symm; subst hw
  go_wp2_with fail
  go_ret
  exact ⟨rfl, H1.out⟩

set_option maxHeartbeats 400000 in
theorem alpha_out (s : ByteArray) (w : World) (hs : ¬ s.size ≤ 1048576) :
    Calls Tryf.prog 3 #[.string s] w fun e w' => e = .returned (.bool true) ∧ Below w.heap.size w w' := by
  have hd : decide (s.size ≤ 1048576) = false := decide_eq_false hs
  go_enter Tryf.func3, Tryf.ntmps3
  go_wp2_with fail
  refine (bytesM_any _ _).mono ?_
  rintro e w1 ⟨rfl, hw⟩; replace hw := hw.symm; subst hw
  go_wp2_with fail
  go_ret
  exact ⟨rfl, Below.refl _ _⟩

theorem alpha_walk (s : ByteArray) (w : World) : Calls Tryf.prog 3 #[.string s] w fun e w' => e = .returned (.bool true) ∧ Below w.heap.size w w' := by
  by_cases hs : s.size ≤ 1048576
  · cases h : okName s
    · exact alpha_bad s w hs h
    · exact alpha_ok s w hs h
  · exact alpha_out s w hs

end Go.Proofs.Qxb6627561aFmt
