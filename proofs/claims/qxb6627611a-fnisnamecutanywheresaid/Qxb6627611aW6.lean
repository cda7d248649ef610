import Derived.Test.Qxb6627611aW4
import Derived.Deep.RegionWith
namespace Go.Proofs.Qxb6627611a
open Go.RowKit

theorem name_lit (s : ByteArray) (b : Bool) (w : World) (hs : s.size ≤ 1099511627776) (h : isN s = b) : Calls Try.prog 6 #[.string s] w fun e w' => e = .returned (.bool b) ∧ w' = w := by
  subst h; exact name_any s w hs

set_option maxHeartbeats 4000000 in
theorem cut_main (s : ByteArray) (i : Nat) (w : World) (hs : s.size ≤ 1048576) (hi : i ≤ s.size) (hi1 : 1 ≤ i) :
    Calls Try.prog 3 #[.string s, .int .i64 i] w fun e w' => e = .returned (.bool true) ∧ Below w.heap.size w w' := by
  have hd : decide (s.size ≤ 1048576) = true := decide_eq_true hs
  have hi' : (i : Int) ≤ (s.size : Int) := by omega
  have hi0 : (0 : Int) ≤ (i : Int) := by omega
  have hlaw := cut_law s i hi1 hi
  have e1 := size_head s i hi
  have e2 := size_tail s i
  have z1 : (s.extract 0 i).size ≤ 1099511627776 := by omega
  have z2 : ((⟨#[95]⟩ : ByteArray) ++ s.extract i s.size).size ≤ 1099511627776 := by rw [ByteArray.size_append]; show 1 + _ ≤ _; omega
  have z3 : ∀ ys : List Int, ys.length = 2 * s.size → (strOfNums (120 :: ys)).size ≤ 1099511627776 := fun ys h => by rw [strOfNums_size]; simp; omega
  have z4 : ∀ xs : List Int, xs.length ≤ 24 → (strOfNums xs ++ s).size ≤ 1099511627776 := fun xs hx => by rw [ByteArray.size_append, strOfNums_size]; omega
  have Z1 := hid z1
  have Z2 := hid z2
  have Z3 := hid z3
  have Z4 := hid z4
  have HL := hid hlaw
  clear e1 e2 z1 z2 z3 z4 hlaw
  cases hA : isN (s.extract 0 i) <;> cases hB : isN ((⟨#[95]⟩ : ByteArray) ++ s.extract i s.size)
  all_goals
    have hS := HL.out
    rw [hA, hB] at hS
    first | replace hS : isN s = true := hS | replace hS : isN s = false := hS
    go_enter Try.func3, Try.ntmps3
    go_wp2_with fail
    refine (bytesC_any _ _ _).mono ?_
    rintro e w1 ⟨rfl, hw⟩; replace hw := hw.symm; subst hw
    go_wp2_with fail
    refine (hex_any _ _ hs).mono ?_
    rintro e w1 ⟨ys, rfl, hy1, hy2, hb1⟩
    have hu := hex_name hy2
    have H1 := hid hb1
    have L1 := hid hy1
    clear hy1 hy2 hb1
    go_wp2_with fail
    refine (name_any _ _ (Z3.out ys L1.out)).mono ?_
    rintro e w2 ⟨rfl, hw⟩; replace hw := hw.symm; subst hw
    go_wp2_with fail
    refine (dec_any _ _ (by omega)).mono ?_
    rintro e w2 ⟨xs, rfl, hx1, hx2, hx3, hb2⟩
    have hv := dec_not hx1 hx3 s
    have hzx : (strOfNums xs).size ≤ 24 := by rw [strOfNums_size]; exact hx2
    have H2 := hid hb2
    have L2 := hid hx2
    clear hx1 hx2 hx3 hb2
    go_wp2_with fail
    refine (name_any _ _ (Z4.out xs L2.out)).mono ?_
    rintro e w3 ⟨rfl, hw⟩; replace hw := hw.symm; subst hw
    go_wp2_with fail
    have hs40 : s.size ≤ 1099511627776 := by omega
    go_quiet ((first | (go_at_call_of 6 (Value.string s); exact Calls.quiet_of_same (name_lit s _ _ hs40 hS)) | (go_at_call_of 6 (Value.string (s.extract 0 i)); exact Calls.quiet_of_same (name_lit (s.extract 0 i) _ _ Z1.out hA)) | (go_at_call_of 6 (Value.string ((⟨#[95]⟩ : ByteArray) ++ s.extract i s.size)); exact Calls.quiet_of_same (name_lit _ _ _ Z2.out hB))))
    go_wp2_with fail
    go_ret
    have hb3 := H1.out.trans (H2.out.mono H1.out.size)
    exact ⟨rfl, drewN_below hb3 _⟩

end Go.Proofs.Qxb6627611a
