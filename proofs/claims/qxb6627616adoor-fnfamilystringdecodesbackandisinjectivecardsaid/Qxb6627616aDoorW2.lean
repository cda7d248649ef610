import Derived.Test.Qxb6627616aDoorW1
import Derived.BigQuiet
import Derived.Handy
namespace Go.Proofs.Qxb6627616aDoor
open Go.RowKit

set_option maxHeartbeats 1000000 in
theorem dec_one (w : World) : Calls Tryd.prog 5 #[.string ⟨#[105, 112, 118, 52]⟩] w fun e w' => e = .returned (.tuple #[.int .i64 1, .bool true]) ∧ w' = w := by
  go_enter Tryd.func5, Tryd.ntmps5
  go_wp2
  go_ret2
  exact ⟨rfl, rfl⟩
set_option maxHeartbeats 1000000 in
theorem dec_two (w : World) : Calls Tryd.prog 5 #[.string ⟨#[105, 112, 118, 54]⟩] w fun e w' => e = .returned (.tuple #[.int .i64 2, .bool true]) ∧ w' = w := by
  go_enter Tryd.func5, Tryd.ntmps5
  go_wp2
  go_ret2
  exact ⟨rfl, rfl⟩

theorem drewN_below {B : Nat} {a w : World} (h : Below B a w) (n : Nat) : Below B a (w.drewN n) := ⟨h.os, h.tape, h.output, h.size, h.block⟩

/-- What the number's text gives the walk (o: where the digits begin; L: how many; m: where they end). -/
structure Num (s : ByteArray) (u L o : Nat) : Prop where
  size : s.size = o + L + 1
  pos : 1 ≤ L
  len : L ≤ 21
  n4 : (s.toList == [105, 112, 118, 52]) = false
  n6 : (s.toList == [105, 112, 118, 54]) = false
  pre : ∀ j (h : j < s.size) (h7 : j < (⟨#[70, 97, 109, 105, 108, 121, 40]⟩ : ByteArray).size), (((s[j]'h).toNat : Int) != (((⟨#[70, 97, 109, 105, 108, 121, 40]⟩ : ByteArray)[j]'h7).toNat : Int)) = false
  last : ∀ h : o + L < s.size, (((s[o + L]'h).toNat : Int) != 41) = false
  dig : ∀ k r (h : k < s.size), k + r + 1 = o + L → r < L → ((s[k]'h).toNat : Int) = 48 + ((u / 10 ^ r % 10 : Nat) : Int)
  less : u < 10 ^ L
  zero : u / 10 ^ (L - 1) % 10 = 0 → L = 1 ∧ u = 0

/-- The sum, read from the left: what a round needs. -/
theorem step_q (u r : Nat) : u / 10 ^ r = 10 * (u / 10 ^ (r + 1)) + u / 10 ^ r % 10 := by
  rw [Nat.pow_succ, ← Nat.div_div_eq_div_mul]; omega

set_option maxHeartbeats 1000000 in
theorem dec_pos (s : ByteArray) (u L : Nat) (w : World) (H : Num s u L 7) (hu : u ≤ 9223372036854775807) (hu1 : ¬ u = 1) (hu2 : ¬ u = 2) :
    Calls Tryd.prog 5 #[.string s] w fun e w' => e = .returned (.tuple #[.int .i64 u, .bool true]) ∧ Below w.heap.size w w' := by
  have hs := H.size
  have hL := H.pos
  have hL2 := H.len
  have hn4 := H.n4
  have hn6 := H.n6
  have hp : 7 + L < s.size := by omega
  have hp7 : 7 < s.size := by omega
  have hlast := H.last hp
  have hdig7 := H.dig 7 (L - 1) hp7 (by omega) (by omega)
  have h7 : (((s[7]'hp7).toNat : Int) == 45) = false := beq_eq_false_iff_ne.2 (by omega)
  have hge : decide ((7 : Int) + (L : Int) ≤ 7) = false := decide_eq_false (by omega)
  have h9 : decide ((7 : Int) + (L : Int) + 1 < 9) = false := decide_eq_false (by omega)
  have hz : ((s[7]'hp7).toNat : Int) = 48 ∧ (7 : Int) + (L : Int) - 7 ≤ 1 ∨ ¬ ((s[7]'hp7).toNat : Int) = 48 := by
    by_cases e : ((s[7]'hp7).toNat : Int) = 48
    · have := H.zero (by omega)
      exact .inl ⟨e, by omega⟩
    · exact .inr e
  have HU := hid (⟨hu, hu1, hu2⟩ : u ≤ 9223372036854775807 ∧ ¬ u = 1 ∧ ¬ u = 2)
  have HH := hid H
  clear H hdig7 hu hu1 hu2
  go_enter Tryd.func5, Tryd.ntmps5
  go_wp2_with fail
  go_loopw [5] (fun i wr => ∃ k : Nat, k ≤ 7 ∧ i = .int .i64 k ∧ Hid (Below w.heap.size w wr)) (fun i _ => 7 - (intOf i).toNat)
  case atStart => exact ⟨0, by omega, rfl, Below.refl _ _⟩
  case round =>
    obtain ⟨k, hk, rfl, hb⟩ := hrel
    by_cases hlt : k < 7
    · have hks : k < s.size := by omega
      have hv := HH.out.pre k hks hlt
      have hki : (k : Int) < 7 := by omega
      have hki2 : (k : Int) < 7 + (L : Int) + 1 := by omega
      go_wp2_with fail
      go_quiet (fail)
      go_wp2_with fail
      go_round
      case rel => exact ⟨k + 1, by omega, by go_num, drewN_below hb.out nq⟩
      case measure => simp [intOf]; omega
    · have hk7 : k = 7 := by omega
      subst hk7
      rcases hz with ⟨hz1, hz2⟩ | hz1
      all_goals
        go_wp2_with fail
        go_loop [6, 10] (fun i acc => ∃ (k r : Nat) (A : Int), k + r = 7 + L ∧ r ≤ L ∧ i = .int .i64 k ∧ acc = .int .i64 A ∧ Hid (A = -((u / 10 ^ r : Nat) : Int))) (fun i _ => 7 + L - (intOf i).toNat)
        case atStart => exact ⟨7, L, 0, by omega, by omega, rfl, rfl, by rw [Nat.div_eq_of_lt HH.out.less]; rfl⟩
        case round =>
          obtain ⟨k, r, A, hkr, hr, rfl, rfl, hA⟩ := hrel
          by_cases hr0 : r = 0
          · subst hr0
            obtain rfl : k = 7 + L := by omega
            have hA0 : A = -(u : Int) := by rw [hA.out, Nat.pow_zero, Nat.div_one]
            have HR := hid (show -A = (u : Int) by omega)
            have hr1 : -9223372036854775807 ≤ A := by have := HU.out.1; omega
            have hr2 : A ≤ 0 := by omega
            have b1 : (-A == 1) = false := beq_eq_false_iff_ne.2 (by have := HU.out.2.1; omega)
            have b2 : (-A == 2) = false := beq_eq_false_iff_ne.2 (by have := HU.out.2.2; omega)
            clear hA0 hA hz1
            go_wp2_with fail
            go_ret2
            exact ⟨by rw [HR.out]; rfl, hb.out⟩
          · obtain ⟨q, rfl⟩ : ∃ q, r = q + 1 := ⟨r - 1, by omega⟩
            have hks : k < s.size := by omega
            have hv := HH.out.dig k q hks (by omega) (by omega)
            have hst := step_q u q
            have hle : u / 10 ^ q ≤ 9223372036854775807 := Nat.le_trans (Nat.div_le_self _ _) HU.out.1
            have hd : u / 10 ^ q % 10 ≤ 9 := by omega
            have hAe := hA.out
            generalize u / 10 ^ q % 10 = d at hv hd hst
            have hkl : (k : Int) < 7 + (L : Int) := by omega
            have hkl2 : (k : Int) < 7 + (L : Int) + 1 := by omega
            have hr1 : -922337203685477580 ≤ A := by omega
            have hr2 : A ≤ 0 := by omega
            have hr3 : -9223372036854775807 + (d : Int) ≤ A * 10 := by omega
            have hd0 : (0 : Int) ≤ (d : Int) := by omega
            have hd9 : (d : Int) ≤ 9 := by omega
            have HR := hid (show A * 10 - (d : Int) = -((u / 10 ^ q : Nat) : Int) by omega)
            clear hA hAe hle hst hd hz1
            go_wp2_with fail
            go_round
            case rel => exact ⟨k + 1, q, _, by omega, by omega, by go_num, rfl, (show A * 10 - (48 + (d : Int) - 48) = A * 10 - (d : Int) by omega).trans HR.out⟩
            case measure => simp [intOf]; omega
end Go.Proofs.Qxb6627616aDoor
