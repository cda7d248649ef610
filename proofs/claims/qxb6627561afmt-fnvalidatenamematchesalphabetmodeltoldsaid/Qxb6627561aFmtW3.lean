import Derived.Test.Qxb6627561aFmtW2
namespace Go.Proofs.Qxb6627561aFmt
open Go.RowKit

/-! ### The plain law of the cut -/
theorem okAll_iff (s : ByteArray) : okAll s s.size = true ↔ ∀ j (h : j < s.size), alw ((s[j]'h).toNat : Int) = true := by
  unfold okAll
  exact ⟨fun h j hj => of_decide_eq_true h j hj hj, fun h => decide_eq_true fun j hj _ => h j hj⟩

theorem size_head (s : ByteArray) (i : Nat) (h : i ≤ s.size) : (s.extract 0 i).size = i := by simp [ByteArray.size_extract]; omega
theorem size_tail (s : ByteArray) (i : Nat) : (s.extract i s.size).size = s.size - i := by simp [ByteArray.size_extract]

theorem get_head (s : ByteArray) (i j : Nat) (h : j < (s.extract 0 i).size) (h' : j < s.size) : (s.extract 0 i)[j]'h = s[j]'h' := by
  rw [ByteArray.getElem_extract]; simp
theorem get_tail (s : ByteArray) (i j : Nat) (h : j < (s.extract i s.size).size) (h' : i + j < s.size) : (s.extract i s.size)[j]'h = s[i + j]'h' := by
  rw [ByteArray.getElem_extract]

theorem okAll_cut (s : ByteArray) (i : Nat) (hi : i ≤ s.size) : okAll s s.size = (okAll (s.extract 0 i) (s.extract 0 i).size && okAll (s.extract i s.size) (s.extract i s.size).size) := by
  rw [Bool.eq_iff_iff, Bool.and_eq_true, okAll_iff, okAll_iff, okAll_iff]
  have e1 := size_head s i hi
  have e2 := size_tail s i
  constructor
  · intro h
    refine ⟨fun j hj => ?_, fun j hj => ?_⟩
    · rw [get_head s i j hj (by omega)]; exact h j _
    · rw [get_tail s i j hj (by omega)]; exact h _ _
  · rintro ⟨h1, h2⟩ j hj
    by_cases hji : j < i
    · have := h1 j (by omega)
      rw [get_head s i j (by omega) hj] at this; exact this
    · have := h2 (j - i) (by omega)
      rw [get_tail s i (j - i) (by omega) (by omega)] at this
      simpa [show i + (j - i) = j by omega] using this

theorem okAll_empty {s : ByteArray} (h : s.size = 0) : okAll s s.size = true := by rw [okAll_iff]; intro j hj; omega

/-- A part, empty or accepted: its bytes are all allowed (where it is short). -/
theorem part_ok {s : ByteArray} (h : s.size ≤ 249) : (s.toList.isEmpty || okName s) = okAll s s.size := by
  by_cases h0 : s.size = 0
  · rw [empty_t h0, okAll_empty h0]; rfl
  · rw [empty_f h0]; unfold okName; rw [decide_eq_true (by omega)]; rfl

theorem cut_law (s : ByteArray) (i : Nat) (hi : i ≤ s.size) :
    okName s = (((s.extract 0 i).toList.isEmpty || okName (s.extract 0 i)) && ((s.extract i s.size).toList.isEmpty || okName (s.extract i s.size)) && (decide (1 ≤ s.size) && decide (s.size ≤ 249))) := by
  by_cases hL : 1 ≤ s.size ∧ s.size ≤ 249
  · have e1 := size_head s i hi
    have e2 := size_tail s i
    rw [part_ok (by omega), part_ok (by omega), ← okAll_cut s i hi, decide_eq_true hL.1, decide_eq_true hL.2]
    unfold okName
    rw [decide_eq_true hL, Bool.true_and, Bool.and_true, Bool.and_true]
  · have : (decide (1 ≤ s.size) && decide (s.size ≤ 249)) = false := by
      rw [← Bool.decide_and]; exact decide_eq_false hL
    rw [this, Bool.and_false]
    unfold okName
    rw [decide_eq_false hL]; rfl

set_option maxHeartbeats 400000 in
theorem bytesC_any (s : ByteArray) (i : Int) (w : World) : Calls Tryf.prog 8 #[.string s, .int .i64 i] w fun e w' => e = .returned (.bool (decide (s.size ≤ 1048576))) ∧ w' = w := by
  by_cases h : s.size ≤ 1048576
  · go_enter Tryf.func8, Tryf.ntmps8
    go_wp2
    go_ret
    exact ⟨by rw [decide_eq_true h]; rfl, rfl⟩
  · go_enter Tryf.func8, Tryf.ntmps8
    go_wp2
    go_ret
    exact ⟨by rw [show decide (s.size ≤ 1048576) = false from decide_eq_false h]; rfl, rfl⟩

set_option maxHeartbeats 400000 in
theorem bytesM_any (s : ByteArray) (w : World) : Calls Tryf.prog 5 #[.string s] w fun e w' => e = .returned (.bool (decide (s.size ≤ 1048576))) ∧ w' = w := by
  by_cases h : s.size ≤ 1048576
  · go_enter Tryf.func5, Tryf.ntmps5
    go_wp2
    go_ret
    exact ⟨by rw [decide_eq_true h]; rfl, rfl⟩
  · go_enter Tryf.func5, Tryf.ntmps5
    go_wp2
    go_ret
    exact ⟨by rw [show decide (s.size ≤ 1048576) = false from decide_eq_false h]; rfl, rfl⟩

end Go.Proofs.Qxb6627561aFmt
