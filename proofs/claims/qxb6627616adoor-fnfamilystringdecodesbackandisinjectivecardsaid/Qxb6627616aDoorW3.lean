import Derived.Test.Qxb6627616aDoorW2
namespace Go.Proofs.Qxb6627616aDoor
open Go.RowKit

set_option maxHeartbeats 1000000 in
theorem dec_neg (s : ByteArray) (u L : Nat) (w : World) (H : Num s u L 8) (h7 : ∀ h : 7 < s.size, ((s[7]'h).toNat : Int) = 45) (hu : u ≤ 9223372036854775808) (hu1 : 1 ≤ u) :
    Calls Tryd.prog 5 #[.string s] w fun e w' => e = .returned (.tuple #[.int .i64 (-(u : Int)), .bool true]) ∧ Below w.heap.size w w' := by
  have hs := H.size
  have hL := H.pos
  have hL2 := H.len
  have hn4 := H.n4
  have hn6 := H.n6
  have hp : 8 + L < s.size := by omega
  have hp7 : 7 < s.size := by omega
  have hp8 : 8 < s.size := by omega
  have hlast := H.last hp
  have hdig8 := H.dig 8 (L - 1) hp8 (by omega) (by omega)
  have hm : (((s[7]'hp7).toNat : Int) == 45) = true := beq_iff_eq.2 (h7 hp7)
  have hge : decide ((8 : Int) + (L : Int) ≤ 8) = false := decide_eq_false (by omega)
  have h9 : decide ((8 : Int) + (L : Int) + 1 < 9) = false := decide_eq_false (by omega)
  have hz1 : ¬ ((s[8]'hp8).toNat : Int) = 48 := fun e => by
    have := (H.zero (by omega)).2
    omega
  have HU := hid (⟨hu, hu1⟩ : u ≤ 9223372036854775808 ∧ 1 ≤ u)
  have HH := hid H
  clear H hdig8 hu hu1 h7
  go_enter Tryd.func5, Tryd.ntmps5
  go_wp2_with fail
  go_loopw [5] (fun i wr => ∃ k : Nat, k ≤ 7 ∧ i = .int .i64 k ∧ Hid (Below w.heap.size w wr)) (fun i _ => 7 - (intOf i).toNat)
  case atStart => exact ⟨0, by omega, rfl, Below.refl _ _⟩
  case round =>
    obtain ⟨k, hk, rfl, hb⟩ := hrel
    by_cases hlt : k < 7
    · have hks : k < s.size := by omega
      have hv := HH.out.pre k hks hlt
      have hki : (k : Int) < 7 := by omega
      have hki2 : (k : Int) < 8 + (L : Int) + 1 := by omega
      go_wp2_with fail
      go_quiet (fail)
      go_wp2_with fail
      go_round
      case rel => exact ⟨k + 1, by omega, by go_num, drewN_below hb.out nq⟩
      case measure => simp [intOf]; omega
    · have hk7 : k = 7 := by omega
      subst hk7
      go_wp2_with fail
      go_loop [6, 10] (fun i acc => ∃ (k r : Nat) (A : Int), k + r = 8 + L ∧ r ≤ L ∧ i = .int .i64 k ∧ acc = .int .i64 A ∧ Hid (A = -((u / 10 ^ r : Nat) : Int))) (fun i _ => 8 + L - (intOf i).toNat)
      case atStart => exact ⟨8, L, 0, by omega, by omega, rfl, rfl, by rw [Nat.div_eq_of_lt HH.out.less]; rfl⟩
      case round =>
        obtain ⟨k, r, A, hkr, hr, rfl, rfl, hA⟩ := hrel
        by_cases hr0 : r = 0
        · subst hr0
          obtain rfl : k = 8 + L := by omega
          have hA0 : A = -(u : Int) := by rw [hA.out, Nat.pow_zero, Nat.div_one]
          have HR := hid hA0
          have hr1 : -9223372036854775808 ≤ A := by have := HU.out.1; omega
          have hr2 : A ≤ 0 := by omega
          have b1 : (A == 1) = false := beq_eq_false_iff_ne.2 (by omega)
          have b2 : (A == 2) = false := beq_eq_false_iff_ne.2 (by omega)
          clear hA0 hA hz1
          go_wp2_with fail
          go_ret2
          exact ⟨by rw [HR.out]; rfl, hb.out⟩
        · obtain ⟨q, rfl⟩ : ∃ q, r = q + 1 := ⟨r - 1, by omega⟩
          have hks : k < s.size := by omega
          have hv := HH.out.dig k q hks (by omega) (by omega)
          have hst := step_q u q
          have hle : u / 10 ^ q ≤ 9223372036854775808 := Nat.le_trans (Nat.div_le_self _ _) HU.out.1
          have hd : u / 10 ^ q % 10 ≤ 9 := by omega
          have hAe := hA.out
          generalize u / 10 ^ q % 10 = d at hv hd hst
          have hkl : (k : Int) < 8 + (L : Int) := by omega
          have hkl2 : (k : Int) < 8 + (L : Int) + 1 := by omega
          have hr1 : -922337203685477580 ≤ A := by omega
          have hr2 : A ≤ 0 := by omega
          have hr3 : -9223372036854775808 + (d : Int) ≤ A * 10 := by omega
          have hd0 : (0 : Int) ≤ (d : Int) := by omega
          have hd9 : (d : Int) ≤ 9 := by omega
          have HR := hid (show A * 10 - (d : Int) = -((u / 10 ^ q : Nat) : Int) by omega)
          clear hA hAe hle hst hd hz1
          go_wp2_with fail
          go_round
          case rel => exact ⟨k + 1, q, _, by omega, by omega, by go_num, rfl, (show A * 10 - (48 + (d : Int) - 48) = A * 10 - (d : Int) by omega).trans HR.out⟩
          case measure => simp [intOf]; omega
end Go.Proofs.Qxb6627616aDoor
