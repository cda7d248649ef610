import Derived.Test.Qxb6627611aW3
import Derived.Test.Qxb6627611aPl
import Derived.BigQuiet
import Derived.Deep.QuietTactic
namespace Go.Proofs.Qxb6627611a
open Go.RowKit

set_option maxHeartbeats 400000 in
theorem bytesI_any (s : ByteArray) (c i : Int) (w : World) : Calls Try.prog 9 #[.string s, .int .u8 c, .int .i64 i] w fun e w' => e = .returned (.bool (decide (s.size ≤ 1048576))) ∧ w' = w := by
  by_cases h : s.size ≤ 1048576
  · go_enter Try.func9, Try.ntmps9
    go_wp2
    go_ret
    exact ⟨by rw [decide_eq_true h]; rfl, rfl⟩
  · go_enter Try.func9, Try.ntmps9
    go_wp2
    go_ret
    exact ⟨by rw [show decide (s.size ≤ 1048576) = false from decide_eq_false h]; rfl, rfl⟩

set_option maxHeartbeats 400000 in
theorem bytesC_any (s : ByteArray) (i : Int) (w : World) : Calls Try.prog 5 #[.string s, .int .i64 i] w fun e w' => e = .returned (.bool (decide (s.size ≤ 1048576))) ∧ w' = w := by
  by_cases h : s.size ≤ 1048576
  · go_enter Try.func5, Try.ntmps5
    go_wp2
    go_ret
    exact ⟨by rw [decide_eq_true h]; rfl, rfl⟩
  · go_enter Try.func5, Try.ntmps5
    go_wp2
    go_ret
    exact ⟨by rw [show decide (s.size ≤ 1048576) = false from decide_eq_false h]; rfl, rfl⟩

theorem size_head (s : ByteArray) (i : Nat) (h : i ≤ s.size) : (s.extract 0 i).size = i := by simp [ByteArray.size_extract]; omega
theorem size_tail (s : ByteArray) (i : Nat) : (s.extract i s.size).size = s.size - i := by simp [ByteArray.size_extract]

theorem drewN_below {B : Nat} {a w : World} (h : Below B a w) (n : Nat) : Below B a (w.drewN n) := ⟨h.os, h.tape, h.output, h.size, h.block⟩

set_option maxHeartbeats 4000000 in
theorem ins_main (s : ByteArray) (c : Int) (p : Nat) (w : World) (hs : s.size ≤ 1048576) (hp : p ≤ s.size) (hp1 : 1 ≤ p) :
    Calls Try.prog 4 #[.string s, .int .u8 c, .int .i64 p] w fun e w' => e = .returned (.bool true) ∧ Below w.heap.size w w' := by
  have hd : decide (s.size ≤ 1048576) = true := decide_eq_true hs
  have hp' : (p : Int) ≤ (s.size : Int) := by omega
  have hp2 : ((p : Int) == 0) = false := beq_eq_false_iff_ne.2 (by omega)
  have hcv := run_convert_bytes_arg (P := Try.prog) (w.alloc (.cells #[.int .u8 c] 5)) 27 5 Try.underlying27 Try.underlying5 w.heap.size 0 1 1 [c] rfl (fun i hi => by
    have : i = 0 := by omega
    subst this; simp) 9 Try.underlying9
  obtain ⟨o, ho⟩ : ∃ o, o = strOfNums [c] := ⟨_, rfl⟩
  rw [← ho] at hcv
  have hod : o.data.toList = [UInt8.ofNat c.toNat] := by rw [ho]; rfl
  have hos : o.size = 1 := by rw [← len_list, hod]; rfl
  have hlaw := ins_law s o _ p hod hp1 hp
  have e1 := size_head s p hp
  have e2 := size_tail s p
  have z1 : (s.extract 0 p ++ o ++ s.extract p s.size).size ≤ 1099511627776 := by rw [ByteArray.size_append, ByteArray.size_append]; omega
  have z2 : ((⟨#[95]⟩ : ByteArray) ++ o).size ≤ 1099511627776 := by rw [ByteArray.size_append, hos]; decide
  have z3 : ∀ xs : List Int, xs.length ≤ 24 → ((⟨#[95]⟩ : ByteArray) ++ strOfNums xs).size ≤ 1099511627776 := fun xs hx => by
    rw [ByteArray.size_append, strOfNums_size]; show 1 + xs.length ≤ _; omega
  have z4 : ∀ xs : List Int, xs.length ≤ 24 → (strOfNums xs ++ o ++ s).size ≤ 1099511627776 := fun xs hx => by
    rw [ByteArray.size_append, ByteArray.size_append, strOfNums_size]; omega
  have Z1 := hid z1
  have Z2 := hid z2
  have Z3 := hid z3
  have Z4 := hid z4
  clear ho hod e1 e2 z1 z2 z3 z4
  cases hA : isN s <;> cases hB : isN ((⟨#[95]⟩ : ByteArray) ++ o) <;> rw [hA, hB] at hlaw
  all_goals
    first | replace hlaw : isN (s.extract 0 p ++ o ++ s.extract p s.size) = true := hlaw | replace hlaw : isN (s.extract 0 p ++ o ++ s.extract p s.size) = false := hlaw
    go_enter Try.func4, Try.ntmps4
    go_wp2_with fail
    refine (bytesI_any _ _ _ _).mono ?_
    rintro e w1 ⟨rfl, hw⟩; replace hw := hw.symm; subst hw
    go_wp2_with fail
    go_quiet (fail)
    clear hcv
    go_wp2_with fail
    refine (name_any _ _ (by omega)).mono ?_
    rintro e w1 ⟨rfl, hw⟩; replace hw := hw.symm; subst hw
    go_wp2_with fail
    first | (go_at_call 6; refine (name_any _ _ Z2.out).mono ?_; rintro e w1 ⟨rfl, hw⟩; replace hw := hw.symm; subst hw; go_wp2_with fail) | skip
    refine (dec_any _ _ (by omega)).mono ?_
    rintro e w1 ⟨xs, rfl, hx1, hx2, hx3, hb1⟩
    have hu := dec_under hx3
    have hz : (strOfNums xs).size ≤ 24 := by rw [strOfNums_size]; exact hx2
    have H1 := hid hb1
    have L1 := hid hx2
    clear hx1 hx2 hx3 hb1
    go_wp2_with fail
    refine (name_any _ _ (Z3.out xs L1.out)).mono ?_
    rintro e w2 ⟨rfl, hw⟩; replace hw := hw.symm; subst hw
    go_wp2_with fail
    refine (dec_any _ _ (by omega)).mono ?_
    rintro e w2 ⟨ys, rfl, hy1, hy2, hy3, hb2⟩
    have hv := dec_not2 hy1 hy3 o s
    have hzy : (strOfNums ys).size ≤ 24 := by rw [strOfNums_size]; exact hy2
    have H2 := hid hb2
    have L2 := hid hy2
    clear hy1 hy2 hy3 hb2
    go_wp2_with fail
    refine (name_any _ _ (Z4.out ys L2.out)).mono ?_
    rintro e w3 ⟨rfl, hw⟩; replace hw := hw.symm; subst hw
    go_wp2_with fail
    refine (name_any _ _ Z1.out).mono ?_
    rintro e w3 ⟨rfl, hw⟩; replace hw := hw.symm; subst hw
    go_wp2_with fail
    go_ret
    have hb0 : Below w.heap.size w ((w.alloc (.cells #[.int .u8 c] 5)).drewN nq) := drewN_below ((Below.refl _ _).alloc (Nat.le_refl _) _) nq
    have hb3 := hb0.trans (H1.out.mono hb0.size)
    exact ⟨rfl, hb3.trans (H2.out.mono hb3.size)⟩

end Go.Proofs.Qxb6627611a
