import Derived.Test.Qxb6627561aFmtFacts
namespace Go.Proofs.Qxb6627561aFmt
open Go.RowKit

/-- The alphabet. -/
def alw (n : Int) : Bool := decide ((97 ≤ n ∧ n ≤ 122) ∨ (65 ≤ n ∧ n ≤ 90) ∨ (48 ≤ n ∧ n ≤ 57) ∨ n = 46 ∨ n = 95 ∨ n = 45)

theorem parts (n : Int) : n < 45 ∨ n = 45 ∨ n = 46 ∨ n = 47 ∨ (48 ≤ n ∧ n ≤ 57) ∨ (58 ≤ n ∧ n ≤ 64) ∨ (65 ≤ n ∧ n ≤ 90) ∨ (91 ≤ n ∧ n ≤ 94) ∨ n = 95 ∨ n = 96 ∨ (97 ≤ n ∧ n ≤ 122) ∨ 122 < n := by omega

theorem ret_bool {a b : Bool} (h : a = b) : Ending.returned (.bool a) = .returned (.bool b) := by rw [h]
theorem alw_t {n : Int} (h : (97 ≤ n ∧ n ≤ 122) ∨ (65 ≤ n ∧ n ≤ 90) ∨ (48 ≤ n ∧ n ≤ 57) ∨ n = 46 ∨ n = 95 ∨ n = 45) : true = alw n := by unfold alw; rw [decide_eq_true h]
theorem alw_f {n : Int} (h : ¬ ((97 ≤ n ∧ n ≤ 122) ∨ (65 ≤ n ∧ n ≤ 90) ∨ (48 ≤ n ∧ n ≤ 57) ∨ n = 46 ∨ n = 95 ∨ n = 45)) : false = alw n := by unfold alw; rw [decide_eq_false h]

set_option maxHeartbeats 1000000 in
theorem char_any (n : Int) (w : World) : Calls Tryf.prog 11 #[.int .i32 n] w fun e w' => e = .returned (.bool (alw n)) ∧ w' = w := by
  rcases parts n with h | h | h | h | ⟨h1, h2⟩ | ⟨h1, h2⟩ | ⟨h1, h2⟩ | ⟨h1, h2⟩ | h | h | ⟨h1, h2⟩ | h
  all_goals first | subst h | skip
  all_goals
    go_enter Tryf.func11, Tryf.ntmps11
    go_wp2
    go_ret
    exact ⟨ret_bool (by first | exact alw_t (by omega) | exact alw_f (by omega)), rfl⟩

set_option maxHeartbeats 1000000 in
theorem byte_any (n : Int) (w : World) : Calls Tryf.prog 10 #[.int .u8 n] w fun e w' => e = .returned (.bool (alw n)) ∧ w' = w := by
  rcases parts n with h | h | h | h | ⟨h1, h2⟩ | ⟨h1, h2⟩ | ⟨h1, h2⟩ | ⟨h1, h2⟩ | h | h | ⟨h1, h2⟩ | h
  all_goals first | subst h | (have e46 : (n == 46) = false := beq_eq_false_iff_ne.2 (by omega); have e95 : (n == 95) = false := beq_eq_false_iff_ne.2 (by omega); have e45 : (n == 45) = false := beq_eq_false_iff_ne.2 (by omega))
  all_goals
    go_enter Tryf.func10, Tryf.ntmps10
    go_wp2
    go_ret
    exact ⟨ret_bool (by first | exact alw_t (by omega) | exact alw_f (by omega)), rfl⟩

/-- The byte model of a name. -/
def okAll (s : ByteArray) (k : Nat) : Bool := decide (∀ j (h : j < s.size), j < k → alw ((s[j]'h).toNat : Int) = true)
def okName (s : ByteArray) : Bool := decide (1 ≤ s.size ∧ s.size ≤ 249) && okAll s s.size

theorem okAll_zero (s : ByteArray) : okAll s 0 = true := by unfold okAll; exact decide_eq_true fun j h hk => absurd hk (Nat.not_lt_zero _)
theorem okAll_succ {s : ByteArray} {k : Nat} (hk : k < s.size) (h : okAll s k = true) (ha : alw ((s[k]'hk).toNat : Int) = true) : okAll s (k + 1) = true := by
  unfold okAll at *
  refine decide_eq_true fun j hj hjk => ?_
  by_cases e : j = k
  · subst e; exact ha
  · exact of_decide_eq_true h j hj (by omega)
theorem okAll_bad {s : ByteArray} {k : Nat} (hk : k < s.size) (ha : alw ((s[k]'hk).toNat : Int) = false) : okAll s s.size = false := by
  unfold okAll
  refine decide_eq_false fun h => ?_
  rw [h k hk hk] at ha; cases ha

set_option maxHeartbeats 1000000 in
theorem nameOK_any (s : ByteArray) (w : World) : Calls Tryf.prog 7 #[.string s] w fun e w' => e = .returned (.bool (okName s)) ∧ w' = w := by
  by_cases h1 : s.size < 1
  · have hd : okName s = false := by unfold okName; rw [decide_eq_false (by omega)]; rfl
    have HD : Hid (okName s = false) := hd
    clear hd
    go_enter Tryf.func7, Tryf.ntmps7
    go_wp2_with fail
    go_ret
    exact ⟨by rw [HD.out]; rfl, rfl⟩
  · by_cases h2 : 249 < s.size
    · have HD : Hid (okName s = false) := by show _ = _; unfold okName; rw [decide_eq_false (by omega)]; rfl
      go_enter Tryf.func7, Tryf.ntmps7
      go_wp2_with fail
      go_ret
      exact ⟨by rw [HD.out]; rfl, rfl⟩
    · have HO : Hid (okName s = okAll s s.size) := by show _ = _; unfold okName; rw [decide_eq_true (by omega)]; rfl
      go_enter Tryf.func7, Tryf.ntmps7
      go_wp2_with fail
      go_loop [3] (fun i => ∃ k : Nat, k ≤ s.size ∧ i = .int .i64 k ∧ Hid (okAll s k = true)) (fun i => s.size - (intOf i).toNat)
      case atStart => exact ⟨0, Nat.zero_le _, rfl, okAll_zero s⟩
      case round =>
        obtain ⟨k, hk, rfl, hall⟩ := hrel
        by_cases hlt : k < s.size
        · cases ha : alw ((s[k]'hlt).toNat : Int)
          · have HA : Hid (okAll s s.size = false) := okAll_bad hlt ha
            go_wp2_with fail
            refine (byte_any _ _).mono ?_
            rintro e w1 ⟨rfl, rfl⟩
            go_wp2_with fail
            go_ret
            exact ⟨by rw [HO.out, HA.out]; rfl, rfl⟩
          · have HA : Hid (okAll s (k + 1) = true) := okAll_succ hlt hall.out ha
            go_wp2_with fail
            refine (byte_any _ _).mono ?_
            rintro e w1 ⟨rfl, rfl⟩
            go_wp2_with fail
            go_round
            case rel => exact ⟨k + 1, by omega, by go_num, HA⟩
            case measure => simp [intOf]; omega
        · have hks : k = s.size := by omega
          subst hks
          go_wp2_with fail
          go_ret
          exact ⟨by rw [HO.out, hall.out]; rfl, rfl⟩

end Go.Proofs.Qxb6627561aFmt
