import Derived.Test.Qxb6627611aRows
import Derived.WalkKit
import Derived.WalkSpells
import Derived.WalkLawsBesides
namespace Go.Proofs.Qxb6627611a
open Go.RowKit

theorem own : ownKnob Try.prog.godebug = none := by kernel_rfl
theorem hid {p : Prop} (h : p) : Hid p := h
theorem ret_bool {a b : Bool} (h : a = b) : Ending.returned (.bool a) = .returned (.bool b) := by rw [h]

/-- May the byte open a name? May it go on in one? -/
def st (n : Int) : Bool := decide (n = 95 ∨ (97 ≤ n ∧ n ≤ 122) ∨ (65 ≤ n ∧ n ≤ 90))
def pt (n : Int) : Bool := st n || decide (48 ≤ n ∧ n ≤ 57)

theorem parts (n : Int) : n < 65 ∨ (65 ≤ n ∧ n ≤ 90) ∨ (91 ≤ n ∧ n ≤ 94) ∨ n = 95 ∨ n = 96 ∨ (97 ≤ n ∧ n ≤ 122) ∨ 122 < n := by omega
theorem st_t {n : Int} (h : n = 95 ∨ (97 ≤ n ∧ n ≤ 122) ∨ (65 ≤ n ∧ n ≤ 90)) : true = st n := (decide_eq_true h).symm
theorem st_f {n : Int} (h : ¬ (n = 95 ∨ (97 ≤ n ∧ n ≤ 122) ∨ (65 ≤ n ∧ n ≤ 90))) : false = st n := (decide_eq_false h).symm

set_option maxHeartbeats 1000000 in
theorem start_any (n : Int) (w : World) : Calls Try.prog 10 #[.int .u8 n] w fun e w' => e = .returned (.bool (st n)) ∧ w' = w := by
  rcases parts n with h | ⟨h1, h2⟩ | ⟨h1, h2⟩ | h | h | ⟨h1, h2⟩ | h
  all_goals first | subst h | have e95 : (n == 95) = false := beq_eq_false_iff_ne.2 (by omega)
  all_goals first | have e90 : decide (n ≤ 90) = false := decide_eq_false (by omega) | skip
  all_goals first | have e122 : decide (n ≤ 122) = false := decide_eq_false (by omega) | skip
  all_goals
    go_enter Try.func10, Try.ntmps10
    go_wp2
    go_ret
    exact ⟨ret_bool (by first | exact st_t (by omega) | exact st_f (by omega)), rfl⟩

set_option maxHeartbeats 1000000 in
theorem part_any (n : Int) (w : World) : Calls Try.prog 11 #[.int .u8 n] w fun e w' => e = .returned (.bool (pt n)) ∧ w' = w := by
  cases hs : st n
  · by_cases h1 : 48 ≤ n
    · by_cases h2 : n ≤ 57
      · have HP := hid (show pt n = true by unfold pt; rw [hs, decide_eq_true ⟨h1, h2⟩]; rfl)
        go_enter Try.func11, Try.ntmps11
        go_wp2_with fail
        refine (start_any _ _).mono ?_
        rintro e w1 ⟨rfl, rfl⟩
        go_wp2_with fail
        go_ret
        exact ⟨by rw [HP.out]; rfl, rfl⟩
      · have HP := hid (show pt n = false by unfold pt; rw [hs, decide_eq_false (by omega)]; rfl)
        have hb : decide (n ≤ 57) = false := decide_eq_false h2
        go_enter Try.func11, Try.ntmps11
        go_wp2_with fail
        refine (start_any _ _).mono ?_
        rintro e w1 ⟨rfl, rfl⟩
        go_wp2_with fail
        go_ret
        exact ⟨by rw [HP.out]; rfl, rfl⟩
    · have HP := hid (show pt n = false by unfold pt; rw [hs, decide_eq_false (by omega)]; rfl)
      have hb : decide (48 ≤ n) = false := decide_eq_false h1
      go_enter Try.func11, Try.ntmps11
      go_wp2_with fail
      refine (start_any _ _).mono ?_
      rintro e w1 ⟨rfl, rfl⟩
      go_wp2_with fail
      go_ret
      exact ⟨by rw [HP.out]; rfl, rfl⟩
  · have HP := hid (show pt n = true by unfold pt; rw [hs]; rfl)
    go_enter Try.func11, Try.ntmps11
    go_wp2_with fail
    refine (start_any _ _).mono ?_
    rintro e w1 ⟨rfl, rfl⟩
    go_wp2_with fail
    go_ret
    exact ⟨by rw [HP.out]; rfl, rfl⟩

/-! ### IsName -/
def okFrom (s : ByteArray) (k : Nat) : Bool := decide (∀ j (h : j < s.size), 1 ≤ j → j < k → pt ((s[j]'h).toNat : Int) = true)
def isN (s : ByteArray) : Bool := decide (∃ h : 0 < s.size, st ((s[0]'h).toNat : Int) = true) && okFrom s s.size

theorem okFrom_one (s : ByteArray) : okFrom s 1 = true := decide_eq_true fun j h h1 hk => by omega
theorem okFrom_succ {s : ByteArray} {k : Nat} (hk : k < s.size) (h : okFrom s k = true) (ha : pt ((s[k]'hk).toNat : Int) = true) : okFrom s (k + 1) = true := by
  refine decide_eq_true fun j hj h1 hjk => ?_
  by_cases e : j = k
  · subst e; exact ha
  · exact of_decide_eq_true h j hj h1 (by omega)
theorem okFrom_bad {s : ByteArray} {k : Nat} (hk : k < s.size) (h1 : 1 ≤ k) (ha : pt ((s[k]'hk).toNat : Int) = false) : okFrom s s.size = false := by
  refine decide_eq_false fun h => ?_
  rw [h k hk h1 hk] at ha; cases ha

theorem empty_t {s : ByteArray} (h : s.size = 0) : s.toList.isEmpty = true := by
  rw [ByteArray.toList_eq, List.isEmpty_iff]
  exact List.eq_nil_of_length_eq_zero h
theorem empty_f {s : ByteArray} (h : ¬ s.size = 0) : s.toList.isEmpty = false := by
  rw [ByteArray.toList_eq]
  cases hl : s.data.toList with
  | nil => exact absurd (by have := congrArg List.length hl; exact this) h
  | cons a l => rfl

set_option maxHeartbeats 1000000 in
theorem name_any (s : ByteArray) (w : World) (hs : s.size ≤ 1099511627776) : Calls Try.prog 6 #[.string s] w fun e w' => e = .returned (.bool (isN s)) ∧ w' = w := by
  by_cases h0 : s.size = 0
  · have hem := empty_t h0
    have HD := hid (show isN s = false by unfold isN; rw [decide_eq_false (by rintro ⟨h, _⟩; omega)]; rfl)
    clear h0
    go_enter Try.func6, Try.ntmps6
    go_wp2_with fail
    go_ret
    exact ⟨by rw [HD.out]; rfl, rfl⟩
  · have hem := empty_f h0
    have hp : 0 < s.size := by omega
    have hp' : (0 : Int) < (s.size : Int) := by omega
    cases ha : st ((s[0]'hp).toNat : Int)
    · have HD := hid (show isN s = false by unfold isN; rw [decide_eq_false (by rintro ⟨h, hh⟩; rw [ha] at hh; cases hh)]; rfl)
      clear h0
      go_enter Try.func6, Try.ntmps6
      go_wp2_with fail
      refine (start_any _ _).mono ?_
      rintro e w1 ⟨rfl, rfl⟩
      go_wp2_with fail
      go_ret
      exact ⟨by rw [HD.out]; rfl, rfl⟩
    · have HD := hid (show isN s = okFrom s s.size by unfold isN; rw [decide_eq_true ⟨hp, ha⟩]; rfl)
      clear h0
      go_enter Try.func6, Try.ntmps6
      go_wp2_with fail
      refine (start_any _ _).mono ?_
      rintro e w1 ⟨rfl, rfl⟩
      go_wp2_with fail
      go_loop [3] (fun i => ∃ k : Nat, 1 ≤ k ∧ k ≤ s.size ∧ i = .int .i64 k ∧ Hid (okFrom s k = true)) (fun i => s.size - (intOf i).toNat)
      case atStart => exact ⟨1, Nat.le_refl _, hp, rfl, okFrom_one s⟩
      case round =>
        obtain ⟨k, hk1, hk, rfl, hall⟩ := hrel
        by_cases hlt : k < s.size
        · cases hb : pt ((s[k]'hlt).toNat : Int)
          · have HA : Hid (okFrom s s.size = false) := okFrom_bad hlt hk1 hb
            go_wp2_with fail
            refine (part_any _ _).mono ?_
            rintro e w1 ⟨rfl, rfl⟩
            go_wp2_with fail
            go_ret
            exact ⟨by rw [HD.out, HA.out]; rfl, rfl⟩
          · have HA : Hid (okFrom s (k + 1) = true) := okFrom_succ hlt hall.out hb
            go_wp2_with fail
            refine (part_any _ _).mono ?_
            rintro e w1 ⟨rfl, rfl⟩
            go_wp2_with fail
            go_round
            case rel => exact ⟨k + 1, by omega, by omega, by go_num, HA⟩
            case measure => simp [intOf]; omega
        · have hks : k = s.size := by omega
          subst hks
          go_wp2_with fail
          go_ret
          exact ⟨by rw [HD.out, hall.out]; rfl, rfl⟩

end Go.Proofs.Qxb6627611a
