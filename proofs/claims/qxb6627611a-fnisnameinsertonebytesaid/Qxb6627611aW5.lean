import Derived.Test.Qxb6627611aW4
namespace Go.Proofs.Qxb6627611a
open Go.RowKit

theorem ins_first (s o : ByteArray) (c : UInt8) (ho : o.data.toList = [c]) : isN (o ++ s) = (isN o && isN ((⟨#[95]⟩ : ByteArray) ++ s)) := by
  rw [isN_eq, isN_eq, isN_eq, data_append, data_append, ho]
  exact isL_first _ _

set_option maxHeartbeats 4000000 in
theorem ins_zero (s : ByteArray) (c : Int) (w : World) (hs : s.size ≤ 1048576) :
    Calls Try.prog 4 #[.string s, .int .u8 c, .int .i64 0] w fun e w' => e = .returned (.bool true) ∧ Below w.heap.size w w' := by
  have hd : decide (s.size ≤ 1048576) = true := decide_eq_true hs
  have hcv := run_convert_bytes_arg (P := Try.prog) (w.alloc (.cells #[.int .u8 c] 5)) 27 5 Try.underlying27 Try.underlying5 w.heap.size 0 1 1 [c] rfl (fun i hi => by
    have : i = 0 := by omega
    subst this; simp) 9 Try.underlying9
  obtain ⟨o, ho⟩ : ∃ o, o = strOfNums [c] := ⟨_, rfl⟩
  rw [← ho] at hcv
  have hod : o.data.toList = [UInt8.ofNat c.toNat] := by rw [ho]; rfl
  have hos : o.size = 1 := by rw [← len_list, hod]; rfl
  have hlaw := ins_first s o _ hod
  have z1 : (o ++ s).size ≤ 1099511627776 := by rw [ByteArray.size_append]; omega
  have z2 : ((⟨#[95]⟩ : ByteArray) ++ s).size ≤ 1099511627776 := by rw [ByteArray.size_append]; show 1 + s.size ≤ _; omega
  have z3 : ∀ xs : List Int, xs.length ≤ 24 → ((⟨#[95]⟩ : ByteArray) ++ strOfNums xs).size ≤ 1099511627776 := fun xs hx => by
    rw [ByteArray.size_append, strOfNums_size]; show 1 + xs.length ≤ _; omega
  have z4 : ∀ xs : List Int, xs.length ≤ 24 → (strOfNums xs ++ o ++ s).size ≤ 1099511627776 := fun xs hx => by
    rw [ByteArray.size_append, ByteArray.size_append, strOfNums_size]; omega
  have Z1 := hid z1
  have Z2 := hid z2
  have Z3 := hid z3
  have Z4 := hid z4
  clear ho hod z1 z2 z3 z4
  cases hA : isN o <;> cases hB : isN ((⟨#[95]⟩ : ByteArray) ++ s) <;> rw [hA, hB] at hlaw
  all_goals
    first | replace hlaw : isN (o ++ s) = true := hlaw | replace hlaw : isN (o ++ s) = false := hlaw
    go_enter Try.func4, Try.ntmps4
    go_wp2_with fail
    refine (bytesI_any _ _ _ _).mono ?_
    rintro e w1 ⟨rfl, hw⟩; replace hw := hw.symm; subst hw
    go_wp2_with fail
    go_quiet (fail)
    clear hcv
    go_wp2_with fail
    refine (name_any _ _ (by omega)).mono ?_
    rintro e w1 ⟨rfl, hw⟩; replace hw := hw.symm; subst hw
    go_wp2_with fail
    first | (go_at_call 6; refine (name_any _ _ Z2.out).mono ?_; rintro e w1 ⟨rfl, hw⟩; replace hw := hw.symm; subst hw; go_wp2_with fail) | skip
    refine (dec_any _ _ (by omega)).mono ?_
    rintro e w1 ⟨xs, rfl, hx1, hx2, hx3, hb1⟩
    have hu := dec_under hx3
    have hz : (strOfNums xs).size ≤ 24 := by rw [strOfNums_size]; exact hx2
    have H1 := hid hb1
    have L1 := hid hx2
    clear hx1 hx2 hx3 hb1
    go_wp2_with fail
    refine (name_any _ _ (Z3.out xs L1.out)).mono ?_
    rintro e w2 ⟨rfl, hw⟩; replace hw := hw.symm; subst hw
    go_wp2_with fail
    refine (dec_any _ _ (by omega)).mono ?_
    rintro e w2 ⟨ys, rfl, hy1, hy2, hy3, hb2⟩
    have hv := dec_not2 hy1 hy3 o s
    have hzy : (strOfNums ys).size ≤ 24 := by rw [strOfNums_size]; exact hy2
    have H2 := hid hb2
    have L2 := hid hy2
    clear hy1 hy2 hy3 hb2
    go_wp2_with fail
    refine (name_any _ _ (Z4.out ys L2.out)).mono ?_
    rintro e w3 ⟨rfl, hw⟩; replace hw := hw.symm; subst hw
    go_wp2_with fail
    refine (name_any _ _ Z1.out).mono ?_
    rintro e w3 ⟨rfl, hw⟩; replace hw := hw.symm; subst hw
    go_wp2_with fail
    go_ret
    have hb0 : Below w.heap.size w ((w.alloc (.cells #[.int .u8 c] 5)).drewN nq) := drewN_below ((Below.refl _ _).alloc (Nat.le_refl _) _) nq
    have hb3 := hb0.trans (H1.out.mono hb0.size)
    exact ⟨rfl, hb3.trans (H2.out.mono hb3.size)⟩

set_option maxHeartbeats 400000 in
theorem ins_out1 (s : ByteArray) (c i : Int) (w : World) (h : ¬ s.size ≤ 1048576) :
    Calls Try.prog 4 #[.string s, .int .u8 c, .int .i64 i] w fun e w' => e = .returned (.bool true) ∧ Below w.heap.size w w' := by
  have hd : decide (s.size ≤ 1048576) = false := decide_eq_false h
  go_enter Try.func4, Try.ntmps4
  go_wp2_with fail
  refine (bytesI_any _ _ _ _).mono ?_
  rintro e w1 ⟨rfl, hw⟩; replace hw := hw.symm; subst hw
  go_wp2_with fail
  go_ret
  exact ⟨rfl, Below.refl _ _⟩

set_option maxHeartbeats 400000 in
theorem ins_out2 (s : ByteArray) (c i : Int) (w : World) (h : s.size ≤ 1048576) (h2 : i < 0 ∨ (s.size : Int) < i) :
    Calls Try.prog 4 #[.string s, .int .u8 c, .int .i64 i] w fun e w' => e = .returned (.bool true) ∧ Below w.heap.size w w' := by
  have hd : decide (s.size ≤ 1048576) = true := decide_eq_true h
  by_cases h3 : i < 0
  · clear h2
    go_enter Try.func4, Try.ntmps4
    go_wp2_with fail
    refine (bytesI_any _ _ _ _).mono ?_
    rintro e w1 ⟨rfl, hw⟩; replace hw := hw.symm; subst hw
    go_wp2_with fail
    go_ret
    exact ⟨rfl, Below.refl _ _⟩
  · have h4 : (s.size : Int) < i := by omega
    clear h2
    go_enter Try.func4, Try.ntmps4
    go_wp2_with fail
    refine (bytesI_any _ _ _ _).mono ?_
    rintro e w1 ⟨rfl, hw⟩; replace hw := hw.symm; subst hw
    go_wp2_with fail
    go_ret
    exact ⟨rfl, Below.refl _ _⟩

theorem ins_walk (s : ByteArray) (c i : Int) (w : World) :
    Calls Try.prog 4 #[.string s, .int .u8 c, .int .i64 i] w fun e w' => e = .returned (.bool true) ∧ Below w.heap.size w w' := by
  by_cases h : s.size ≤ 1048576
  · by_cases h2 : i < 0 ∨ (s.size : Int) < i
    · exact ins_out2 s c i w h h2
    · obtain ⟨p, rfl⟩ := Int.eq_ofNat_of_zero_le (show 0 ≤ i by omega)
      by_cases h0 : p = 0
      · subst h0; exact ins_zero s c w h
      · exact ins_main s c p w h (by omega) (by omega)
  · exact ins_out1 s c i w h

end Go.Proofs.Qxb6627611a
