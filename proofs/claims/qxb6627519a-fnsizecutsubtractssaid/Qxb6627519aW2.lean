import Derived.Test.Qxb6627519aW1
import Derived.Deep.OwnRows
import Derived.Laws.BytesArg
namespace Go.Proofs.Qxb6627519a
open Go.RowKit

/-- The digits that lie in the buffer from k on. -/
def Dg (F : Nat → Int) (k : Nat) : Prop := ∀ j, k ≤ j → j < 24 → 48 ≤ F j ∧ F j ≤ 57

theorem zeros24 (w : World) : (w.alloc (.cells #[Value.int IntKind.u8 0, Value.int IntKind.u8 0, Value.int IntKind.u8 0, Value.int IntKind.u8 0,
      Value.int IntKind.u8 0, Value.int IntKind.u8 0, Value.int IntKind.u8 0, Value.int IntKind.u8 0,
      Value.int IntKind.u8 0, Value.int IntKind.u8 0, Value.int IntKind.u8 0, Value.int IntKind.u8 0,
      Value.int IntKind.u8 0, Value.int IntKind.u8 0, Value.int IntKind.u8 0, Value.int IntKind.u8 0,
      Value.int IntKind.u8 0, Value.int IntKind.u8 0, Value.int IntKind.u8 0, Value.int IntKind.u8 0,
      Value.int IntKind.u8 0, Value.int IntKind.u8 0, Value.int IntKind.u8 0, Value.int IntKind.u8 0] 45)).rowIs w.heap.size 45 24 (fun j => .int .u8 ((fun _ => (0 : Int)) j)) :=
  World.rowIs_alloc w _ 45 _ (fun i hi => by
    have hz : ∀ j : Fin 24, (#[Value.int IntKind.u8 0, Value.int IntKind.u8 0, Value.int IntKind.u8 0, Value.int IntKind.u8 0,
      Value.int IntKind.u8 0, Value.int IntKind.u8 0, Value.int IntKind.u8 0, Value.int IntKind.u8 0,
      Value.int IntKind.u8 0, Value.int IntKind.u8 0, Value.int IntKind.u8 0, Value.int IntKind.u8 0,
      Value.int IntKind.u8 0, Value.int IntKind.u8 0, Value.int IntKind.u8 0, Value.int IntKind.u8 0,
      Value.int IntKind.u8 0, Value.int IntKind.u8 0, Value.int IntKind.u8 0, Value.int IntKind.u8 0,
      Value.int IntKind.u8 0, Value.int IntKind.u8 0, Value.int IntKind.u8 0, Value.int IntKind.u8 0] : Array Value)[j.val]? = some (.int .u8 0) := by
      intro j
      have e : (#[Value.int IntKind.u8 0, Value.int IntKind.u8 0, Value.int IntKind.u8 0, Value.int IntKind.u8 0,
      Value.int IntKind.u8 0, Value.int IntKind.u8 0, Value.int IntKind.u8 0, Value.int IntKind.u8 0,
      Value.int IntKind.u8 0, Value.int IntKind.u8 0, Value.int IntKind.u8 0, Value.int IntKind.u8 0,
      Value.int IntKind.u8 0, Value.int IntKind.u8 0, Value.int IntKind.u8 0, Value.int IntKind.u8 0,
      Value.int IntKind.u8 0, Value.int IntKind.u8 0, Value.int IntKind.u8 0, Value.int IntKind.u8 0,
      Value.int IntKind.u8 0, Value.int IntKind.u8 0, Value.int IntKind.u8 0, Value.int IntKind.u8 0] : Array Value) = Array.replicate 24 (.int .u8 0) := rfl
      rw [e, Array.getElem?_replicate, if_pos j.isLt]
    exact hz ⟨i, by simpa using hi⟩)

set_option maxHeartbeats 400000 in
theorem itoa_any (n : Nat) (w : World) (hn0 : 0 < n) (hn : n ≤ 1048577) :
    Calls Try.prog 11 #[.int .i64 n] w fun e w' => ∃ xs : List Int, e = .returned (.string (strOfNums xs)) ∧ xs.length ≤ 24 ∧ Below w.heap.size w w' := by
  go_enter Try.func11, Try.ntmps11
  go_wp2
  go_loopw [0, 4] (fun nv i wr => ∃ (k m : Nat) (F : Nat → Int), k ≤ 24 ∧ m ≤ 1048577 ∧ (0 < m ∨ k < 24) ∧ nv = .int .i64 m ∧ i = .int .i64 k ∧ m < 10 ^ k ∧ wr.rowIs w.heap.size 45 24 (fun j => .int .u8 (F j)) ∧ Dg F k ∧ Below w.heap.size w wr)
    (fun nv _ _ => (intOf nv).toNat)
  case atStart => exact ⟨24, n, fun _ => 0, by omega, by omega, .inl hn0, rfl, rfl, Nat.lt_of_le_of_lt hn (by decide), zeros24 w, fun j h1 h2 => by omega, (Below.refl _ _).alloc (Nat.le_refl _) _⟩
  case round =>
    obtain ⟨k, m, F, hk, hm, hmk, rfl, rfl, hpow, hrow, hdg, hbel⟩ := hrel
    have HP : Hid (m < 10 ^ k) := hpow
    have HD : Hid (Dg F k) := hdg
    clear hpow hdg
    by_cases hm0 : 0 < m
    · have hk0 : 0 < k := by
        rcases Nat.eq_zero_or_pos k with h | h
        · subst h; have := HP.out; simp at this; omega
        · exact h
      have hcell := hrow.cell (i := k - 1) (by omega)
      have hfr := hrow.frozen (k - 1)
      go_wp2
      go_roundw
      case rel =>
        refine ⟨k - 1, m / 10, fun j => if j = k - 1 then 48 + (m : Int) % 10 else F j, by omega, by omega, .inr (by omega), by go_num, by go_num, ?_, ?_, ?_, ?_⟩
        · have h1 := HP.out
          obtain ⟨q, rfl⟩ : ∃ q, k = q + 1 := ⟨k - 1, by omega⟩
          rw [Nat.pow_succ] at h1
          simp only [Nat.add_sub_cancel]
          omega
        · refine (hrow.set (k - 1) _).congr fun i hi => ?_
          by_cases h : i = k - 1
          · simp only [if_pos h]
          · simp only [if_neg h]
        · intro j h1 h2
          by_cases h : j = k - 1
          · simp only [if_pos h]; omega
          · simp only [if_neg h]; exact HD.out j (by omega) h2
        · exact hbel.setCell (Nat.le_refl _) _
      case measure => simp [intOf]; omega
    · have hm1 : m = 0 := by omega
      subst hm1
      have hk1 : (k : Int) ≤ 24 := by omega
      have hk2 : k < 24 := by omega
      have hk3 : ¬ (24 = k) := by omega
      have hcv := run_convert_bytes_arg (P := Try.prog) wr 46 5 Try.underlying46 Try.underlying5 w.heap.size k (24 - k) (24 - k) ((List.range (24 - k)).map fun i => F (k + i)) (by simp)
        (fun i hi => by rw [hrow.cell (by omega)]; simp [hi]) 9 Try.underlying9
      go_wp2
      go_ret
      exact ⟨_, rfl, by simp, hbel⟩

end Go.Proofs.Qxb6627519a
