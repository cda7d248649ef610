import Derived.Test.Qxb6627519aGr
import Derived.Test.Qxb6627519aW4
namespace Go.Proofs.Qxb6627519a
open Go.RowKit

set_option maxHeartbeats 400000 in
theorem bytesG_any (ad bd : Option Addr) (n ca m cb : Nat) (r s : Bool) (t : Int) (w : World) :
    Calls Try.prog 5 #[.slice ad n ca, .bool r, .slice bd m cb, .bool s, .int .i64 t] w fun e w' => e = .returned (.bool (decide (n + m ≤ 1048576))) ∧ w' = w := by
  by_cases h1 : n ≤ 1048576
  · by_cases h2 : m ≤ 1048576
    · by_cases h3 : n + m ≤ 1048576
      · go_enter Try.func5, Try.ntmps5
        go_wp2
        go_ret
        exact ⟨by rw [decide_eq_true h3]; rfl, rfl⟩
      · go_enter Try.func5, Try.ntmps5
        go_wp2
        go_ret
        exact ⟨by rw [decide_eq_false h3]; rfl, rfl⟩
    · go_enter Try.func5, Try.ntmps5
      go_wp2
      go_ret
      exact ⟨by rw [show decide (n + m ≤ 1048576) = false from decide_eq_false (by omega)]; rfl, rfl⟩
  · go_enter Try.func5, Try.ntmps5
    go_wp2
    go_ret
    exact ⟨by rw [show decide (n + m ≤ 1048576) = false from decide_eq_false (by omega)]; rfl, rfl⟩

theorem Zs.below {w w' : World} {ad : Option Addr} {n : Nat} {P : Nat → Int} {O : Nat → Bool} (h : Zs w ad n P O) (hb : Below w.heap.size w w') : Zs w' ad n P O := fun i hi => by
  obtain ⟨b, off, e, c0, c1⟩ := h i hi
  exact ⟨b, off, e, (hb.cell (p := ⟨b, off + i * 2, none⟩) (World.block_lt_of_cell? w _ c0)).trans c0, (hb.cell (p := ⟨b, off + i * 2 + 1, none⟩) (World.block_lt_of_cell? w _ c1)).trans c1⟩

/-! ### The ways that return at once -/
section
variable (ad bd : Option Addr) (n ca m cb : Nat) (P Q : Nat → Int) (O U : Nat → Bool) (r s : Bool) (t : Int) (w : World)

set_option maxHeartbeats 400000 in
theorem graft_out1 (h : ¬ n + m ≤ 1048576) :
    Calls Try.prog 3 #[.slice ad n ca, .bool r, .slice bd m cb, .bool s, .int .i64 t] w fun e w' => e = .returned (.bool true) ∧ Below w.heap.size w w' := by
  have hd : decide (n + m ≤ 1048576) = false := decide_eq_false h
  go_enter Try.func3, Try.ntmps3
  go_wp2_with fail
  refine (bytesG_any _ _ _ _ _ _ _ _ _ _).mono ?_
  rintro e w1 ⟨rfl, rfl⟩
  go_wp2_with fail
  go_ret
  exact ⟨rfl, Below.refl _ _⟩

set_option maxHeartbeats 400000 in
theorem graft_out2 (h : n + m ≤ 1048576) (h2 : ¬ n + m ≤ 65536) :
    Calls Try.prog 3 #[.slice ad n ca, .bool r, .slice bd m cb, .bool s, .int .i64 t] w fun e w' => e = .returned (.bool true) ∧ Below w.heap.size w w' := by
  have hd : decide (n + m ≤ 1048576) = true := decide_eq_true h
  by_cases h3 : n ≤ 65536
  all_goals
    go_enter Try.func3, Try.ntmps3
    go_wp2_with fail
    refine (bytesG_any _ _ _ _ _ _ _ _ _ _).mono ?_
    rintro e w1 ⟨rfl, rfl⟩
    go_wp2_with fail
    go_ret
    exact ⟨rfl, Below.refl _ _⟩

set_option maxHeartbeats 400000 in
theorem graft_out3 (h : n + m ≤ 1048576) (h2 : n + m ≤ 65536) (h3 : ¬ (0 ≤ t ∧ t ≤ n)) :
    Calls Try.prog 3 #[.slice ad n ca, .bool r, .slice bd m cb, .bool s, .int .i64 t] w fun e w' => e = .returned (.bool true) ∧ Below w.heap.size w w' := by
  have hd : decide (n + m ≤ 1048576) = true := decide_eq_true h
  by_cases h4 : t < 0
  · clear h3
    go_enter Try.func3, Try.ntmps3
    go_wp2_with fail
    refine (bytesG_any _ _ _ _ _ _ _ _ _ _).mono ?_
    rintro e w1 ⟨rfl, rfl⟩
    go_wp2_with fail
    go_ret
    exact ⟨rfl, Below.refl _ _⟩
  · have h5 : (n : Int) < t := by omega
    clear h3
    go_enter Try.func3, Try.ntmps3
    go_wp2_with fail
    refine (bytesG_any _ _ _ _ _ _ _ _ _ _).mono ?_
    rintro e w1 ⟨rfl, rfl⟩
    go_wp2_with fail
    go_ret
    exact ⟨rfl, Below.refl _ _⟩

set_option maxHeartbeats 400000 in
theorem graft_out4 (h : n + m ≤ 1048576) (h2 : n + m ≤ 65536) (h3 : 0 ≤ t) (h4 : t ≤ n) (hA : Zs w ad n P O) (hB : Zs w bd m Q U) (hv : ¬ (vld P n = true ∧ vld Q m = true)) :
    Calls Try.prog 3 #[.slice ad n ca, .bool r, .slice bd m cb, .bool s, .int .i64 t] w fun e w' => e = .returned (.bool true) ∧ Below w.heap.size w w' := by
  have hd : decide (n + m ≤ 1048576) = true := decide_eq_true h
  have HA : Hid (Zs w ad n P O) := hA
  have HB : Hid (Zs w bd m Q U) := hB
  clear hA hB
  cases hvA : vld P n
  · clear hv
    go_enter Try.func3, Try.ntmps3
    go_wp2_with fail
    refine (bytesG_any _ _ _ _ _ _ _ _ _ _).mono ?_
    rintro e w1 ⟨rfl, rfl⟩
    go_wp2_with fail
    refine (valid_any _ _ _ P O _ (by omega) HA.out).mono ?_
    rintro e w1 ⟨rfl, rfl⟩
    go_wp2_with fail
    go_ret
    exact ⟨rfl, Below.refl _ _⟩
  · cases hvB : vld Q m
    · clear hv
      go_enter Try.func3, Try.ntmps3
      go_wp2_with fail
      refine (bytesG_any _ _ _ _ _ _ _ _ _ _).mono ?_
      rintro e w1 ⟨rfl, rfl⟩
      go_wp2_with fail
      refine (valid_any _ _ _ P O _ (by omega) HA.out).mono ?_
      rintro e w1 ⟨rfl, rfl⟩
      go_wp2_with fail
      refine (valid_any _ _ _ Q U _ (by omega) HB.out).mono ?_
      rintro e w1 ⟨rfl, rfl⟩
      go_wp2_with fail
      go_ret
      exact ⟨rfl, Below.refl _ _⟩
    · exact absurd ⟨hvA, hvB⟩ hv
end

end Go.Proofs.Qxb6627519a
