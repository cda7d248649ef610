import Derived.Test.Qxb6627611aW1
import Derived.Deep.OwnRows
import Derived.Laws.BytesArg
namespace Go.Proofs.Qxb6627611a
open Go.RowKit

/-- The digits that lie in the buffer from k on. -/
def Dg (F : Nat → Int) (k : Nat) : Prop := ∀ j, k ≤ j → j < 24 → 48 ≤ F j ∧ F j ≤ 57

theorem zeros24 (w : World) : (w.alloc (.cells #[Value.int IntKind.u8 0, Value.int IntKind.u8 0, Value.int IntKind.u8 0, Value.int IntKind.u8 0,
      Value.int IntKind.u8 0, Value.int IntKind.u8 0, Value.int IntKind.u8 0, Value.int IntKind.u8 0,
      Value.int IntKind.u8 0, Value.int IntKind.u8 0, Value.int IntKind.u8 0, Value.int IntKind.u8 0,
      Value.int IntKind.u8 0, Value.int IntKind.u8 0, Value.int IntKind.u8 0, Value.int IntKind.u8 0,
      Value.int IntKind.u8 0, Value.int IntKind.u8 0, Value.int IntKind.u8 0, Value.int IntKind.u8 0,
      Value.int IntKind.u8 0, Value.int IntKind.u8 0, Value.int IntKind.u8 0, Value.int IntKind.u8 0] 31)).rowIs w.heap.size 31 24 (fun j => .int .u8 ((fun _ => (0 : Int)) j)) :=
  World.rowIs_alloc w _ 31 _ (fun i hi => by
    have hz : ∀ j : Fin 24, (#[Value.int IntKind.u8 0, Value.int IntKind.u8 0, Value.int IntKind.u8 0, Value.int IntKind.u8 0,
      Value.int IntKind.u8 0, Value.int IntKind.u8 0, Value.int IntKind.u8 0, Value.int IntKind.u8 0,
      Value.int IntKind.u8 0, Value.int IntKind.u8 0, Value.int IntKind.u8 0, Value.int IntKind.u8 0,
      Value.int IntKind.u8 0, Value.int IntKind.u8 0, Value.int IntKind.u8 0, Value.int IntKind.u8 0,
      Value.int IntKind.u8 0, Value.int IntKind.u8 0, Value.int IntKind.u8 0, Value.int IntKind.u8 0,
      Value.int IntKind.u8 0, Value.int IntKind.u8 0, Value.int IntKind.u8 0, Value.int IntKind.u8 0] : Array Value)[j.val]? = some (.int .u8 0) := by
      intro j
      have e : (#[Value.int IntKind.u8 0, Value.int IntKind.u8 0, Value.int IntKind.u8 0, Value.int IntKind.u8 0,
      Value.int IntKind.u8 0, Value.int IntKind.u8 0, Value.int IntKind.u8 0, Value.int IntKind.u8 0,
      Value.int IntKind.u8 0, Value.int IntKind.u8 0, Value.int IntKind.u8 0, Value.int IntKind.u8 0,
      Value.int IntKind.u8 0, Value.int IntKind.u8 0, Value.int IntKind.u8 0, Value.int IntKind.u8 0,
      Value.int IntKind.u8 0, Value.int IntKind.u8 0, Value.int IntKind.u8 0, Value.int IntKind.u8 0,
      Value.int IntKind.u8 0, Value.int IntKind.u8 0, Value.int IntKind.u8 0, Value.int IntKind.u8 0] : Array Value) = Array.replicate 24 (.int .u8 0) := rfl
      rw [e, Array.getElem?_replicate, if_pos j.isLt]
    exact hz ⟨i, by simpa using hi⟩)

set_option maxHeartbeats 400000 in
theorem dec_pos (n : Nat) (w : World) (hn0 : 0 < n) (hn : n ≤ 1048577) :
    Calls Try.prog 8 #[.int .i64 n] w fun e w' => ∃ xs : List Int, e = .returned (.string (strOfNums xs)) ∧ 1 ≤ xs.length ∧ xs.length ≤ 24 ∧ (∀ x, x ∈ xs → 48 ≤ x ∧ x ≤ 57) ∧ Below w.heap.size w w' := by
  go_enter Try.func8, Try.ntmps8
  go_wp2
  go_loopw [0, 4] (fun nv i wr => ∃ (k m : Nat) (F : Nat → Int), k ≤ 24 ∧ m ≤ 1048577 ∧ (0 < m ∨ k < 24) ∧ nv = .int .i64 m ∧ i = .int .i64 k ∧ m < 10 ^ k ∧ wr.rowIs w.heap.size 31 24 (fun j => .int .u8 (F j)) ∧ Dg F k ∧ Below w.heap.size w wr)
    (fun nv _ _ => (intOf nv).toNat)
  case atStart => exact ⟨24, n, fun _ => 0, by omega, by omega, .inl hn0, rfl, rfl, Nat.lt_of_le_of_lt hn (by decide), zeros24 w, fun j h1 h2 => by omega, (Below.refl _ _).alloc (Nat.le_refl _) _⟩
  case round =>
    obtain ⟨k, m, F, hk, hm, hmk, rfl, rfl, hpow, hrow, hdg, hbel⟩ := hrel
    have HP : Hid (m < 10 ^ k) := hpow
    have HD : Hid (Dg F k) := hdg
    clear hpow hdg
    by_cases hm0 : 0 < m
    · have hk0 : 0 < k := by
        rcases Nat.eq_zero_or_pos k with h | h
        · subst h; have := HP.out; simp at this; omega
        · exact h
      have hcell := hrow.cell (i := k - 1) (by omega)
      have hfr := hrow.frozen (k - 1)
      go_wp2
      go_roundw
      case rel =>
        refine ⟨k - 1, m / 10, fun j => if j = k - 1 then 48 + (m : Int) % 10 else F j, by omega, by omega, .inr (by omega), by go_num, by go_num, ?_, ?_, ?_, ?_⟩
        · have h1 := HP.out
          obtain ⟨q, rfl⟩ : ∃ q, k = q + 1 := ⟨k - 1, by omega⟩
          rw [Nat.pow_succ] at h1
          simp only [Nat.add_sub_cancel]
          omega
        · refine (hrow.set (k - 1) _).congr fun i hi => ?_
          by_cases h : i = k - 1
          · simp only [if_pos h]
          · simp only [if_neg h]
        · intro j h1 h2
          by_cases h : j = k - 1
          · simp only [if_pos h]; omega
          · simp only [if_neg h]; exact HD.out j (by omega) h2
        · exact hbel.setCell (Nat.le_refl _) _
      case measure => simp [intOf]; omega
    · have hm1 : m = 0 := by omega
      subst hm1
      have hk1 : (k : Int) ≤ 24 := by omega
      have hk2 : k < 24 := by omega
      have hk3 : ¬ (24 = k) := by omega
      have hcv := run_convert_bytes_arg (P := Try.prog) wr 27 5 Try.underlying27 Try.underlying5 w.heap.size k (24 - k) (24 - k) ((List.range (24 - k)).map fun i => F (k + i)) (by simp)
        (fun i hi => by rw [hrow.cell (by omega)]; simp [hi]) 9 Try.underlying9
      go_wp2
      go_ret
      refine ⟨_, rfl, by simp; omega, by simp, ?_, hbel⟩
      intro x hx
      obtain ⟨i, hi, rfl⟩ := List.mem_map.1 hx
      have hi' : i < 24 - k := List.mem_range.1 hi
      exact HD.out (k + i) (by omega) (by omega)

set_option maxHeartbeats 400000 in
theorem dec_zero (n : Int) (w : World) (hn : n ≤ 0) : Calls Try.prog 8 #[.int .i64 n] w fun e w' => e = .returned (.string (strOfNums [48])) ∧ w' = w := by
  go_enter Try.func8, Try.ntmps8
  go_wp2
  go_ret
  exact ⟨rfl, rfl⟩

/-- The decimal of a number: digits alone, at least one. -/
theorem dec_any (n : Int) (w : World) (hn : n ≤ 1048577) :
    Calls Try.prog 8 #[.int .i64 n] w fun e w' => ∃ xs : List Int, e = .returned (.string (strOfNums xs)) ∧ 1 ≤ xs.length ∧ xs.length ≤ 24 ∧ (∀ x, x ∈ xs → 48 ≤ x ∧ x ≤ 57) ∧ Below w.heap.size w w' := by
  by_cases h : n ≤ 0
  · refine (dec_zero n w h).mono ?_
    rintro e w' ⟨rfl, rfl⟩
    exact ⟨[48], rfl, by simp, by simp, by simp, Below.refl _ _⟩
  · obtain ⟨m, rfl⟩ := Int.eq_ofNat_of_zero_le (show 0 ≤ n by omega)
    exact dec_pos m w (by omega) (by omega)

/-! ### hexDigitB1 -/
theorem pt_dig {d : Int} (h : 48 ≤ d ∧ d ≤ 57) : pt d = true := by unfold pt; rw [decide_eq_true h, Bool.or_true]
theorem pt_low {d : Int} (h : 97 ≤ d ∧ d ≤ 122) : pt d = true := by unfold pt; rw [← st_t (.inr (.inl h))]; rfl

set_option maxHeartbeats 400000 in
theorem digit_any (v : Int) (w : World) (h0 : 0 ≤ v) (h1 : v ≤ 15) : Calls Try.prog 12 #[.int .u8 v] w fun e w' => ∃ d : Int, e = .returned (.int .u8 d) ∧ 0 ≤ d ∧ d ≤ 255 ∧ Hid (pt d = true) ∧ w' = w := by
  by_cases h : v < 10
  · go_enter Try.func12, Try.ntmps12
    go_wp2
    go_ret
    exact ⟨48 + v, rfl, by omega, by omega, pt_dig (by omega), rfl⟩
  · go_enter Try.func12, Try.ntmps12
    go_wp2
    go_ret
    exact ⟨97 + v - 10, rfl, by omega, by omega, pt_low (by omega), rfl⟩

end Go.Proofs.Qxb6627611a
