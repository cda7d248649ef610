import Derived.Test.Qxb6627561aFmtW4
namespace Go.Proofs.Qxb6627561aFmt
open Go.RowKit

set_option maxHeartbeats 4000000 in
theorem cut_short (s : ByteArray) (i : Nat) (w : World) (hs : s.size ≤ 1048576) (hi : i ≤ s.size) (hL0 : 1 ≤ s.size) (hL : s.size ≤ 249) :
    Calls Tryf.prog 4 #[.string s, .int .i64 i] w fun e w' => e = .returned (.bool true) ∧ Below w.heap.size w w' := by
  have hd : decide (s.size ≤ 1048576) = true := decide_eq_true hs
  have hLL : (decide (1 ≤ s.size) && decide (s.size ≤ 249)) = true := by rw [decide_eq_true hL0, decide_eq_true hL]; rfl
  have hsA : (s.extract 0 i).size ≤ 1048576 := by have := size_head s i hi; omega
  have hsB : (s.extract i s.size).size ≤ 1048576 := by have := size_tail s i; omega
  have hi' : (i : Int) ≤ (s.size : Int) := by omega
  rcases part_ways (s.extract 0 i) with ⟨hea, hA⟩ | ⟨hea, hA⟩ | ⟨hea, hA⟩ <;> rcases part_ways (s.extract i s.size) with ⟨heb, hB⟩ | ⟨heb, hB⟩ | ⟨heb, hB⟩
  all_goals
    have hS := cut_ways s i hi _ _ _ _ _ hea hA heb hB hLL
    first | replace hS : okName s = true := hS | replace hS : okName s = false := hS
    clear hLL
    have hdL : decide ((s.size : Int) ≤ 249) = true := decide_eq_true (by omega)
    have hdL0 : decide ((1 : Int) ≤ (s.size : Int)) = true := decide_eq_true (by omega)
    go_enter Tryf.func4, Tryf.ntmps4
    go_wp2_with fail
    refine (bytesC_any _ _ _).mono ?_
    rintro e w1 ⟨rfl, hw⟩; replace hw := hw.symm; subst hw
    go_wp2_with fail
    first | (refine (validate_ok _ _ hs hS).mono ?_; rintro e w1 ⟨rfl, hb1⟩) | (refine (validate_bad _ _ hs hS).mono ?_; rintro e w1 ⟨b1, rfl, _, hb1⟩)
    have H1 := hid hb1
    clear hb1
    go_wp2_with fail
    first | (refine (validate_ok _ _ hsA hA).mono ?_; rintro e w2 ⟨rfl, hb2⟩) | (refine (validate_bad _ _ hsA hA).mono ?_; rintro e w2 ⟨b2, rfl, _, hb2⟩)
    have H2 := hid hb2
    clear hb2
    go_wp2_with fail
    first | (refine (validate_ok _ _ hsB hB).mono ?_; rintro e w3 ⟨rfl, hb3⟩) | (refine (validate_bad _ _ hsB hB).mono ?_; rintro e w3 ⟨b3, rfl, _, hb3⟩)
    have H3 := hid hb3
    clear hb3
    go_wp2_with fail
    refine (nameOK_any _ _).mono ?_
    rintro e w4 ⟨rfl, hw⟩; replace hw := hw.symm; subst hw
    go_wp2_with fail
    go_ret
    exact ⟨rfl, (H1.out.trans (H2.out.mono H1.out.size)).trans (H3.out.mono (Nat.le_trans H1.out.size H2.out.size))⟩


set_option maxHeartbeats 1000000 in
theorem cut_zero (s : ByteArray) (i : Nat) (w : World) (hi : i ≤ s.size) (h0 : s.size = 0) :
    Calls Tryf.prog 4 #[.string s, .int .i64 i] w fun e w' => e = .returned (.bool true) ∧ Below w.heap.size w w' := by
  have hs : s.size ≤ 1048576 := by omega
  have hd : decide (s.size ≤ 1048576) = true := decide_eq_true hs
  have hsA : (s.extract 0 i).size = 0 := by have := size_head s i hi; omega
  have hsB : (s.extract i s.size).size = 0 := by have := size_tail s i; omega
  have hi' : (i : Int) ≤ (s.size : Int) := by omega
  have hea := empty_t hsA
  have heb := empty_t hsB
  have hA : okName (s.extract 0 i) = false := by unfold okName; rw [decide_eq_false (by omega)]; rfl
  have hB : okName (s.extract i s.size) = false := by unfold okName; rw [decide_eq_false (by omega)]; rfl
  have hS : okName s = false := by unfold okName; rw [decide_eq_false (by omega)]; rfl
  have hsA' : (s.extract 0 i).size ≤ 1048576 := by omega
  have hsB' : (s.extract i s.size).size ≤ 1048576 := by omega
  have hdL0 : decide ((1 : Int) ≤ (s.size : Int)) = false := decide_eq_false (by omega)
  have hlt : s.size < 1 := by omega
  clear hsA hsB h0
  go_enter Tryf.func4, Tryf.ntmps4
  go_wp2_with fail
  refine (bytesC_any _ _ _).mono ?_
  rintro e w1 ⟨rfl, hw⟩; replace hw := hw.symm; subst hw
  go_wp2_with fail
  refine (validate_bad _ _ hs hS).mono ?_
  rintro e w1 ⟨b1, rfl, _, hb1⟩
  have H1 := hid hb1
  clear hb1
  go_wp2_with fail
  refine (validate_bad _ _ hsA' hA).mono ?_
  rintro e w2 ⟨b2, rfl, _, hb2⟩
  have H2 := hid hb2
  clear hb2
  go_wp2_with fail
  refine (validate_bad _ _ hsB' hB).mono ?_
  rintro e w3 ⟨b3, rfl, _, hb3⟩
  have H3 := hid hb3
  clear hb3
  go_wp2_with fail
  refine (nameOK_any _ _).mono ?_
  rintro e w4 ⟨rfl, hw⟩; replace hw := hw.symm; subst hw
  go_wp2_with fail
  go_ret
  exact ⟨rfl, (H1.out.trans (H2.out.mono H1.out.size)).trans (H3.out.mono (Nat.le_trans H1.out.size H2.out.size))⟩

set_option maxHeartbeats 400000 in
theorem cut_out1 (s : ByteArray) (i : Int) (w : World) (h : ¬ s.size ≤ 1048576) :
    Calls Tryf.prog 4 #[.string s, .int .i64 i] w fun e w' => e = .returned (.bool true) ∧ Below w.heap.size w w' := by
  have hd : decide (s.size ≤ 1048576) = false := decide_eq_false h
  go_enter Tryf.func4, Tryf.ntmps4
  go_wp2_with fail
  refine (bytesC_any _ _ _).mono ?_
  rintro e w1 ⟨rfl, hw⟩; replace hw := hw.symm; subst hw
  go_wp2_with fail
  go_ret
  exact ⟨rfl, Below.refl _ _⟩

set_option maxHeartbeats 400000 in
theorem cut_out2 (s : ByteArray) (i : Int) (w : World) (h : s.size ≤ 1048576) (h2 : i < 0 ∨ (s.size : Int) < i) :
    Calls Tryf.prog 4 #[.string s, .int .i64 i] w fun e w' => e = .returned (.bool true) ∧ Below w.heap.size w w' := by
  have hd : decide (s.size ≤ 1048576) = true := decide_eq_true h
  by_cases h3 : i < 0
  · clear h2
    go_enter Tryf.func4, Tryf.ntmps4
    go_wp2_with fail
    refine (bytesC_any _ _ _).mono ?_
    rintro e w1 ⟨rfl, hw⟩; replace hw := hw.symm; subst hw
    go_wp2_with fail
    go_ret
    exact ⟨rfl, Below.refl _ _⟩
  · have h4 : (s.size : Int) < i := by omega
    clear h2
    go_enter Tryf.func4, Tryf.ntmps4
    go_wp2_with fail
    refine (bytesC_any _ _ _).mono ?_
    rintro e w1 ⟨rfl, hw⟩; replace hw := hw.symm; subst hw
    go_wp2_with fail
    go_ret
    exact ⟨rfl, Below.refl _ _⟩

theorem cut_walk (s : ByteArray) (i : Int) (w : World) :
    Calls Tryf.prog 4 #[.string s, .int .i64 i] w fun e w' => e = .returned (.bool true) ∧ Below w.heap.size w w' := by
  by_cases h : s.size ≤ 1048576
  · by_cases h2 : i < 0 ∨ (s.size : Int) < i
    · exact cut_out2 s i w h h2
    · obtain ⟨k, rfl⟩ := Int.eq_ofNat_of_zero_le (show 0 ≤ i by omega)
      by_cases h0 : s.size = 0
      · exact cut_zero s k w (by omega) h0
      · by_cases hL : s.size ≤ 249
        · exact cut_short s k w h (by omega) (by omega) hL
        · exact cut_long s k w h (by omega) (by omega)
  · exact cut_out1 s i w h

end Go.Proofs.Qxb6627561aFmt
