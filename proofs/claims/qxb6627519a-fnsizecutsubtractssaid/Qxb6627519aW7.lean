import Derived.Test.Qxb6627519aCt
import Derived.Test.Qxb6627519aW5
namespace Go.Proofs.Qxb6627519a
set_option maxRecDepth 100000
open Go.RowKit

set_option maxHeartbeats 400000 in
theorem bytesC_any (ad : Option Addr) (n ca : Nat) (r : Bool) (t : Int) (w : World) :
    Calls Try.prog 9 #[.slice ad n ca, .bool r, .int .i64 t] w fun e w' => e = .returned (.bool (decide (n ≤ 1048576))) ∧ w' = w := by
  by_cases h1 : n ≤ 1048576
  · go_enter Try.func9, Try.ntmps9
    go_wp2
    go_ret
    exact ⟨by rw [decide_eq_true h1]; rfl, rfl⟩
  · go_enter Try.func9, Try.ntmps9
    go_wp2
    go_ret
    exact ⟨by rw [show decide (n ≤ 1048576) = false from decide_eq_false h1]; rfl, rfl⟩

section
variable (ad : Option Addr) (n ca : Nat) (P : Nat → Int) (O : Nat → Bool) (r : Bool) (t : Int) (w : World)

set_option maxHeartbeats 400000 in
theorem cut_out1 (h : ¬ n ≤ 1048576) : Calls Try.prog 4 #[.slice ad n ca, .bool r, .int .i64 t] w fun e w' => e = .returned (.bool true) ∧ Below w.heap.size w w' := by
  have hd : decide (n ≤ 1048576) = false := decide_eq_false h
  go_enter Try.func4, Try.ntmps4
  go_wp2_with fail
  refine (bytesC_any _ _ _ _ _ _).mono ?_
  rintro e w1 ⟨rfl, rfl⟩
  go_wp2_with fail
  go_ret
  exact ⟨rfl, Below.refl _ _⟩

set_option maxHeartbeats 400000 in
theorem cut_out2 (h : n ≤ 1048576) (h2 : ¬ n ≤ 65536) : Calls Try.prog 4 #[.slice ad n ca, .bool r, .int .i64 t] w fun e w' => e = .returned (.bool true) ∧ Below w.heap.size w w' := by
  have hd : decide (n ≤ 1048576) = true := decide_eq_true h
  go_enter Try.func4, Try.ntmps4
  go_wp2_with fail
  refine (bytesC_any _ _ _ _ _ _).mono ?_
  rintro e w1 ⟨rfl, rfl⟩
  go_wp2_with fail
  go_ret
  exact ⟨rfl, Below.refl _ _⟩

set_option maxHeartbeats 400000 in
theorem cut_out3 (h : n ≤ 1048576) (h2 : n ≤ 65536) (h3 : ¬ (1 ≤ t ∧ t ≤ n)) : Calls Try.prog 4 #[.slice ad n ca, .bool r, .int .i64 t] w fun e w' => e = .returned (.bool true) ∧ Below w.heap.size w w' := by
  have hd : decide (n ≤ 1048576) = true := decide_eq_true h
  by_cases h4 : t < 1
  · clear h3
    go_enter Try.func4, Try.ntmps4
    go_wp2_with fail
    refine (bytesC_any _ _ _ _ _ _).mono ?_
    rintro e w1 ⟨rfl, rfl⟩
    go_wp2_with fail
    go_ret
    exact ⟨rfl, Below.refl _ _⟩
  · have h5 : (n : Int) < t := by omega
    clear h3
    go_enter Try.func4, Try.ntmps4
    go_wp2_with fail
    refine (bytesC_any _ _ _ _ _ _).mono ?_
    rintro e w1 ⟨rfl, rfl⟩
    go_wp2_with fail
    go_ret
    exact ⟨rfl, Below.refl _ _⟩

set_option maxHeartbeats 400000 in
theorem cut_out4 (h : n ≤ 1048576) (h2 : n ≤ 65536) (h3 : 1 ≤ t) (h4 : t ≤ n) (hA : Zs w ad n P O) (hv : vld P n = false) :
    Calls Try.prog 4 #[.slice ad n ca, .bool r, .int .i64 t] w fun e w' => e = .returned (.bool true) ∧ Below w.heap.size w w' := by
  have hd : decide (n ≤ 1048576) = true := decide_eq_true h
  have HA : Hid (Zs w ad n P O) := hA
  clear hA
  go_enter Try.func4, Try.ntmps4
  go_wp2_with fail
  refine (bytesC_any _ _ _ _ _ _).mono ?_
  rintro e w1 ⟨rfl, rfl⟩
  go_wp2_with fail
  refine (valid_any _ _ _ P O _ (by omega) HA.out).mono ?_
  rintro e w1 ⟨rfl, rfl⟩
  go_wp2_with fail
  go_ret
  exact ⟨rfl, Below.refl _ _⟩
end

end Go.Proofs.Qxb6627519a
