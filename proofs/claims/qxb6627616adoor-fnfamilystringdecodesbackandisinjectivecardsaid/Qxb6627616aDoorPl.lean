import Derived.Test.Qxb6627616aDoorW3
namespace Go.Proofs.Qxb6627616aDoor
open Go.RowKit Go.Lib

abbrev pre7 : List UInt8 := [70, 97, 109, 105, 108, 121, 40]

theorem byte_at {s : ByteArray} {l : List UInt8} (hl : s.data.toList = l) (k : Nat) (h : k < s.size) (h' : k < l.length) : s[k]'h = l[k]'h' := by
  subst hl; rfl
theorem size_of {s : ByteArray} {l : List UInt8} (hl : s.data.toList = l) : s.size = l.length := by
  subst hl; rfl

theorem pow_le_nDigits (u : Nat) : u = 0 ∨ 10 ^ (nDigits u - 1) ≤ u := by
  induction u using Nat.strongRecOn with
  | _ u ih =>
    by_cases h : u < 10
    · rw [nDigits_small h]; simp; omega
    · rw [nDigits_big h]
      right
      rcases ih (u / 10) (by omega) with h0 | h0
      · omega
      · have hp := nDigits_pos (u / 10)
        have e : nDigits (u / 10) + 1 - 1 = (nDigits (u / 10) - 1) + 1 := by omega
        rw [e, Nat.pow_succ]; omega

theorem top_zero (u : Nat) (h : u / 10 ^ (nDigits u - 1) % 10 = 0) : nDigits u = 1 ∧ u = 0 := by
  rcases pow_le_nDigits u with h0 | h0
  · subst h0; exact ⟨nDigits_small (by omega), rfl⟩
  · exfalso
    have hl := lt_pow_nDigits u
    have hp := nDigits_pos u
    have e : 10 ^ nDigits u = 10 ^ (nDigits u - 1) * 10 := by rw [← Nat.pow_succ]; congr 1; omega
    rw [e] at hl
    have h1 : u / 10 ^ (nDigits u - 1) < 10 := Nat.div_lt_of_lt_mul hl
    have h2 : 1 ≤ u / 10 ^ (nDigits u - 1) := (Nat.le_div_iff_mul_le (Nat.pow_pos (by omega))).2 (by omega)
    omega

theorem num_of (s : ByteArray) (m : List UInt8) (u : Nat) (hs : s.data.toList = pre7 ++ (m ++ decDigits u) ++ [41]) (hu : u < 18446744073709551616) : Num s u (nDigits u) (7 + m.length) := by
  have hlen := decDigits_length u
  have hsz := size_of hs
  simp only [List.length_append, List.length_cons, List.length_nil, hlen] at hsz
  have hpos := nDigits_pos u
  have hne : ∀ l : List UInt8, l.length = 4 → (s.toList == l) = false := fun l h4 => beq_eq_false_iff_ne.2 fun e => by
    rw [ByteArray.toList_eq] at e
    have := congrArg List.length e
    rw [h4] at this
    have h2 : s.size = s.data.toList.length := rfl
    omega
  refine ⟨by omega, hpos, Nat.le_succ_of_le (nDigits_le20 u hu), hne _ rfl, hne _ rfl, ?_, ?_, ?_, lt_pow_nDigits u, top_zero u⟩
  · intro j h h7
    have hj : j < pre7.length := h7
    have hj7 : j < 7 := h7
    rw [byte_at hs j h (by simp; omega)]
    rw [List.getElem_append_left (by simp; omega), List.getElem_append_left hj]
    exact bne_eq_false_iff_eq.2 rfl
  · intro h
    rw [byte_at hs _ h (by simp; omega)]
    rw [List.getElem_append_right (by simp; omega)]
    simp
  · intro k r h hk hr
    rw [byte_at hs k h (by simp; omega)]
    rw [List.getElem_append_left (by simp; omega), List.getElem_append_right (by simp; omega), List.getElem_append_right (by simp; omega)]
    simp only [decDigits_eq u, List.getElem_map, List.getElem_range]
    have e : nDigits u - 1 - (k - pre7.length - m.length) = r := by simp; omega
    rw [e]
    have h10 : u / 10 ^ r % 10 < 10 := Nat.mod_lt _ (by omega)
    unfold dg
    rw [UInt8.toNat_ofNat', Nat.mod_eq_of_lt (by omega)]
    omega


theorem data_app (a b c : ByteArray) : (a ++ b ++ c).data.toList = a.data.toList ++ b.data.toList ++ c.data.toList := by
  simp [ByteArray.data_append]

/-- Whatever the family: its text is read back. -/
theorem decode_any (a : Int) (h0 : -9223372036854775808 ≤ a) (h1 : a ≤ 9223372036854775807) (w : World) :
    Calls Tryd.prog 5 #[.string (fstr a)] w fun e w' => e = .returned (.tuple #[.int .i64 a, .bool true]) ∧ Below w.heap.size w w' := by
  by_cases e1 : a = 1
  · subst e1
    exact (dec_one w).mono fun e w' ⟨he, hw⟩ => ⟨he, hw ▸ Below.refl _ _⟩
  · by_cases e2 : a = 2
    · subst e2
      exact (dec_two w).mono fun e w' ⟨he, hw⟩ => ⟨he, hw ▸ Below.refl _ _⟩
    · have hf : (fstr a).data.toList = pre7 ++ itoa a ++ [41] := by
        unfold fstr
        rw [if_neg e1, if_neg e2, data_app]
      by_cases hn : a < 0
      · obtain ⟨u, rfl⟩ : ∃ u : Nat, a = -(u : Int) := ⟨a.natAbs, by omega⟩
        rw [itoa_neg u (by omega)] at hf
        refine dec_neg _ u (nDigits u) w (num_of _ [45] u hf (by omega)) (fun h => ?_) (by omega) (by omega)
        rw [byte_at hf 7 h (by simp)]
        rfl
      · obtain ⟨u, rfl⟩ : ∃ u : Nat, a = u := ⟨a.toNat, by omega⟩
        rw [itoa_nonneg] at hf
        exact dec_pos _ u (nDigits u) w (num_of _ [] u hf (by omega)) (by omega) (by omega) (by omega)

end Go.Proofs.Qxb6627616aDoor
