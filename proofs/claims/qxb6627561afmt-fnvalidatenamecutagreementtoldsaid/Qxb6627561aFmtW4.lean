import Derived.Test.Qxb6627561aFmtW3
namespace Go.Proofs.Qxb6627561aFmt
open Go.RowKit

/-- One part of the cut: empty; accepted; or neither. -/
theorem part_ways (s : ByteArray) : (s.toList.isEmpty = true ∧ okName s = false) ∨ (s.toList.isEmpty = false ∧ okName s = true) ∨ (s.toList.isEmpty = false ∧ okName s = false) := by
  by_cases h : s.size = 0
  · exact .inl ⟨empty_t h, by unfold okName; rw [decide_eq_false (by omega)]; rfl⟩
  · cases ho : okName s
    · exact .inr (.inr ⟨empty_f h, rfl⟩)
    · exact .inr (.inl ⟨empty_f h, rfl⟩)

theorem cut_ways (s : ByteArray) (i : Nat) (hi : i ≤ s.size) (ea eb A B L : Bool) (h1 : (s.extract 0 i).toList.isEmpty = ea) (h2 : okName (s.extract 0 i) = A) (h3 : (s.extract i s.size).toList.isEmpty = eb) (h4 : okName (s.extract i s.size) = B)
    (hL : (decide (1 ≤ s.size) && decide (s.size ≤ 249)) = L) : okName s = ((ea || A) && (eb || B) && L) := by
  rw [cut_law s i hi, h1, h2, h3, h4, hL]

set_option maxHeartbeats 4000000 in
theorem cut_long (s : ByteArray) (i : Nat) (w : World) (hs : s.size ≤ 1048576) (hi : i ≤ s.size) (hL : 249 < s.size) :
    Calls Tryf.prog 4 #[.string s, .int .i64 i] w fun e w' => e = .returned (.bool true) ∧ Below w.heap.size w w' := by
  have hd : decide (s.size ≤ 1048576) = true := decide_eq_true hs
  have hLL : (decide (1 ≤ s.size) && decide (s.size ≤ 249)) = false := by rw [show decide (s.size ≤ 249) = false from decide_eq_false (by omega), Bool.and_false]
  have hsA : (s.extract 0 i).size ≤ 1048576 := by have := size_head s i hi; omega
  have hsB : (s.extract i s.size).size ≤ 1048576 := by have := size_tail s i; omega
  have hi' : (i : Int) ≤ (s.size : Int) := by omega
  rcases part_ways (s.extract 0 i) with ⟨hea, hA⟩ | ⟨hea, hA⟩ | ⟨hea, hA⟩ <;> rcases part_ways (s.extract i s.size) with ⟨heb, hB⟩ | ⟨heb, hB⟩ | ⟨heb, hB⟩
  all_goals
    have hS := cut_ways s i hi _ _ _ _ _ hea hA heb hB hLL
    simp only [Bool.and_false] at hS
    clear hLL
    have hdL : decide ((s.size : Int) ≤ 249) = false := decide_eq_false (by omega)
    go_enter Tryf.func4, Tryf.ntmps4
    go_wp2_with fail
    refine (bytesC_any _ _ _).mono ?_
    rintro e w1 ⟨rfl, hw⟩; replace hw := hw.symm; subst hw
    go_wp2_with fail
    refine (validate_bad _ _ hs hS).mono ?_
    rintro e w1 ⟨b1, rfl, _, hb1⟩
    have H1 := hid hb1
    clear hb1
    go_wp2_with fail
    first | (refine (validate_ok _ _ hsA hA).mono ?_; rintro e w2 ⟨rfl, hb2⟩) | (refine (validate_bad _ _ hsA hA).mono ?_; rintro e w2 ⟨b2, rfl, _, hb2⟩)
    have H2 := hid hb2
    clear hb2
    go_wp2_with fail
    first | (refine (validate_ok _ _ hsB hB).mono ?_; rintro e w3 ⟨rfl, hb3⟩) | (refine (validate_bad _ _ hsB hB).mono ?_; rintro e w3 ⟨b3, rfl, _, hb3⟩)
    have H3 := hid hb3
    clear hb3
    go_wp2_with fail
    refine (nameOK_any _ _).mono ?_
    rintro e w4 ⟨rfl, hw⟩; replace hw := hw.symm; subst hw
    go_wp2_with fail
    go_ret
    exact ⟨rfl, (H1.out.trans (H2.out.mono H1.out.size)).trans (H3.out.mono (Nat.le_trans H1.out.size H2.out.size))⟩

end Go.Proofs.Qxb6627561aFmt
