import Derived.Test.Qxb6627519aRows
import Derived.WalkKit
import Derived.WalkSpells
import Derived.WalkLawsBesides
namespace Go.Proofs.Qxb6627519a
open Go.RowKit

theorem own : ownKnob Try.prog.godebug = none := by kernel_rfl
theorem cells3 : Try.prog.cellsOf 3 = 1 := by kernel_rfl
theorem cells4 : Try.prog.cellsOf 4 = 1 := by kernel_rfl
theorem cells22 : Try.prog.cellsOf 22 = 1 := by kernel_rfl
theorem cells42 : Try.prog.cellsOf 42 = 2 := by kernel_rfl

/-! ### zzNew -/
/-- A new node's cells: its kind, its Items, its Fields. -/
def ncells (k : Int) (its fis : Value) : Array Value :=
  #[.int .i64 k, .int .i64 0, .int .i64 1, .int .i64 1, .bool false, .int .i64 0, .float .f64 0, .bool false, .string ByteArray.empty, its, fis]

def kind (o : Bool) : Int := if o then 5 else 4

set_option maxHeartbeats 400000 in
theorem new_any (o : Bool) (w : World) :
    Calls Try.prog 10 #[.bool o] w fun e w' => e = .returned (.pointer (some ⟨w.heap.size, 0, none⟩)) ∧ w' = w.alloc (.cells (ncells (kind o) (.slice none 0 0) (.slice none 0 0)) 37) := by
  cases o
  all_goals
    go_enter Try.func10, Try.ntmps10
    go_wp2
    go_ret
    exact ⟨rfl, rfl⟩

/-! ### The argument: a slice of (Parent, Object) -/
def Zs (w : World) (ad : Option Addr) (n : Nat) (P : Nat → Int) (O : Nat → Bool) : Prop :=
  ∀ i, i < n → ∃ b off, ad = some ⟨b, off, none⟩ ∧ w.cell? ⟨b, off + i * 2, none⟩ = some (.int .i64 (P i)) ∧ w.cell? ⟨b, off + i * 2 + 1, none⟩ = some (.bool (O i))

def vld (P : Nat → Int) (n : Nat) : Bool := decide (∀ i, i < n → 0 ≤ P i ∧ P i ≤ i)

set_option maxHeartbeats 400000 in
theorem valid_any (ad : Option Addr) (n cap : Nat) (P : Nat → Int) (O : Nat → Bool) (w : World) (hn : n ≤ 1048576) (hz : Zs w ad n P O) :
    Calls Try.prog 6 #[.slice ad n cap] w fun e w' => e = .returned (.bool (vld P n)) ∧ w' = w := by
  have HZ : Hid (Zs w ad n P O) := hz
  clear hz
  go_enter Try.func6, Try.ntmps6
  go_wp2
  go_loop [3] (fun i => ∃ k : Nat, k ≤ n ∧ i = .int .i64 k ∧ ∀ j, j < k → 0 ≤ P j ∧ P j ≤ j) (fun i => n - (intOf i).toNat)
  case atStart => exact ⟨0, Nat.zero_le _, rfl, fun j hj => absurd hj (Nat.not_lt_zero _)⟩
  case round =>
    obtain ⟨k, hk, rfl, hall⟩ := hrel
    have HA : Hid (∀ j, j < k → 0 ≤ P j ∧ P j ≤ j) := hall
    clear hall
    by_cases hlt : k < n
    · obtain ⟨b, off, rfl, c0, c1⟩ := HZ.out k hlt
      by_cases h0 : P k < 0
      · go_wp2
        go_ret
        exact ⟨by simp only [vld]; rw [decide_eq_false]; · rfl
                  intro h; have := (h k hlt).1; omega, rfl⟩
      · by_cases h1 : (k : Int) < P k
        · go_wp2
          go_ret
          exact ⟨by simp only [vld]; rw [decide_eq_false]; · rfl
                    intro h; have := (h k hlt).2; omega, rfl⟩
        · go_wp2
          go_round
          case rel => exact ⟨k + 1, by omega, by go_num, fun j hj => by
              by_cases hjk : j = k
              · subst hjk; omega
              · exact HA.out j (by omega)⟩
          case measure => simp [intOf]; omega
    · go_wp2
      go_ret
      have hkn : k = n := by omega
      subst hkn
      exact ⟨by simp only [vld]; rw [decide_eq_true HA.out]; rfl, rfl⟩

end Go.Proofs.Qxb6627519a
