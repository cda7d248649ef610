import Derived.Test.Qxb6627561aFmtW1
import Derived.Laws.RangeAny
namespace Go.Proofs.Qxb6627561aFmt
open Go.RowKit

/-- What ValidateName gives. -/
def VN (s : ByteArray) (w : World) (e : Ending) (w' : World) : Prop :=
  ((okName s = true ∧ e = .returned .nilIface) ∨ (okName s = false ∧ ∃ b, e = .returned (.iface 29 (.pointer (some ⟨b, 0, none⟩))) ∧ w'.cell? ⟨b, 0, none⟩ = some (.string s))) ∧ Below w.heap.size w w'

theorem empty_t {s : ByteArray} (h : s.size = 0) : s.toList.isEmpty = true := by
  rw [ByteArray.toList_eq, List.isEmpty_iff]
  exact List.eq_nil_of_length_eq_zero h
theorem empty_f {s : ByteArray} (h : ¬ s.size = 0) : s.toList.isEmpty = false := by
  rw [ByteArray.toList_eq]
  cases hl : s.data.toList with
  | nil => exact absurd (by have := congrArg List.length hl; exact this) h
  | cons a l => rfl

theorem iter_more (w : World) (s : ByteArray) (k : Nat) (a b : Obj) : Below w.heap.size w (((w.iter s k).alloc a).alloc b).drew := by
  have h0 : Below w.heap.size w (w.iter s k) := (Below.refl _ _).alloc (Nat.le_refl _) _
  have h1 := h0.alloc h0.size a
  exact (h1.alloc h1.size b).drew

theorem hid {p : Prop} (h : p) : Hid p := h

set_option maxHeartbeats 1000000 in
theorem validate_any (s : ByteArray) (w : World) (hs : s.size ≤ 1048576) : Calls Tryf.prog 9 #[.string s] w (VN s w) := by
  by_cases h0 : s.size = 0
  · have hem := empty_t h0
    have HD : Hid (okName s = false) := by show _ = _; unfold okName; rw [decide_eq_false (by omega)]; rfl
    go_enter Tryf.func9, Tryf.ntmps9
    go_wp2_with fail
    go_ret
    exact ⟨.inr ⟨HD.out, _, rfl, by simp⟩, (Below.refl _ _).alloc (Nat.le_refl _) _⟩
  · have hem := empty_f h0
    go_enter Tryf.func9, Tryf.ntmps9
    go_wp2_with fail
    go_loopw [] (fun wr => ∃ k : Nat, k ≤ s.size ∧ wr = w.iter s k ∧ Hid (okAll s k = true)) (fun wr => s.size - wr.iterPos w.heap.size)
    case atStart => exact ⟨0, Nat.zero_le _, rfl, okAll_zero s⟩
    case round =>
      obtain ⟨k, hk, rfl, hall⟩ := hrel
      by_cases hlt : k < s.size
      · cases ha : alw ((s[k]'hlt).toNat : Int)
        · have HA : Hid (okName s = false) := by show _ = _; unfold okName; rw [okAll_bad hlt ha, Bool.and_false]
          have hnx : ∀ ty, (Instr.next (.pointer (some ⟨w.heap.size, 0, none⟩)) true ty).run Tryf.prog (w.iter s k) = _ := fun ty => run_next_any w s k ty hlt
          have hr : alw ((Utf8.decode s k).1 : Int) = false := by
            by_cases hh : (s[k]'hlt).toNat < 128
            · rw [decode_ascii s k hlt hh]; exact ha
            · have := (decode_high s k hlt (by omega)).1
              unfold alw; exact decide_eq_false (by omega)
          generalize hq : (Utf8.decode s k).1 = q at *
          generalize hz : (Utf8.decode s k).2 = z at *
          clear hq hz
          obtain ⟨t, ht⟩ := spr_chr q k (w.iter s (k + z)).heap.size ((w.iter s (k + z)).alloc (.cells #[.iface 21 (.int .i32 q), .iface 3 (.int .i64 k)] 20)) (by simp) (by simp)
          go_wp2_with fail
          refine (char_any _ _).mono ?_
          rintro e w1 ⟨rfl, hw⟩; replace hw := hw.symm; subst hw
          go_wp2_with fail
          go_ret
          exact ⟨.inr ⟨HA.out, _, rfl, by simp⟩, iter_more _ _ _ _ _⟩
        · have HA : Hid (okAll s (k + 1) = true) := okAll_succ hlt hall.out ha
          have hh : (s[k]'hlt).toNat < 128 := by
            rcases Nat.lt_or_ge (s[k]'hlt).toNat 128 with h | h
            · exact h
            · have := of_decide_eq_true (show decide _ = true from ha); omega
          have hnx : ∀ ty, (Instr.next (.pointer (some ⟨w.heap.size, 0, none⟩)) true ty).run Tryf.prog (w.iter s k) = _ := fun ty => run_next_ascii w s k ty hlt hh
          go_wp2_with fail
          refine (char_any _ _).mono ?_
          rintro e w1 ⟨rfl, hw⟩; replace hw := hw.symm; subst hw
          go_wp2_with fail
          go_roundw
          case rel => exact ⟨k + 1, by omega, rfl, HA⟩
          case measure => simp; omega
      · have hks : k = s.size := by omega
        subst hks
        have hnx : ∀ ty, (Instr.next (.pointer (some ⟨w.heap.size, 0, none⟩)) true ty).run Tryf.prog (w.iter s s.size) = _ := fun ty => run_next_end w s s.size ty (by omega)
        by_cases hbig : 249 < s.size
        · have HA : Hid (okName s = false) := by show _ = _; unfold okName; rw [decide_eq_false (by omega)]; rfl
          obtain ⟨t, ht⟩ := spr_len s.size 249 (w.iter s s.size).heap.size ((w.iter s s.size).alloc (.cells #[.iface 3 (.int .i64 s.size), .iface 3 (.int .i64 249)] 20)) (by simp) (by simp)
          go_wp2_with fail
          go_ret
          exact ⟨.inr ⟨HA.out, _, rfl, by simp⟩, iter_more _ _ _ _ _⟩
        · have HA : Hid (okName s = true) := by show _ = _; unfold okName; rw [decide_eq_true (by omega), hall.out]; rfl
          go_wp2_with fail
          go_ret
          exact ⟨.inl ⟨HA.out, rfl⟩, (Below.refl _ _).alloc (Nat.le_refl _) _⟩

/-! ### The two ways, apart -/
theorem validate_ok (s : ByteArray) (w : World) (hs : s.size ≤ 1048576) (h : okName s = true) : Calls Tryf.prog 9 #[.string s] w fun e w' => e = .returned .nilIface ∧ Below w.heap.size w w' :=
  (validate_any s w hs).mono fun e w' hv => by
    rcases hv with ⟨⟨_, he⟩ | ⟨hb, _⟩, hbel⟩
    · exact ⟨he, hbel⟩
    · rw [h] at hb; cases hb
theorem validate_bad (s : ByteArray) (w : World) (hs : s.size ≤ 1048576) (h : okName s = false) :
    Calls Tryf.prog 9 #[.string s] w fun e w' => ∃ b, e = .returned (.iface 29 (.pointer (some ⟨b, 0, none⟩))) ∧ w'.cell? ⟨b, 0, none⟩ = some (.string s) ∧ Below w.heap.size w w' :=
  (validate_any s w hs).mono fun e w' hv => by
    rcases hv with ⟨⟨hb, _⟩ | ⟨_, b, he, hc⟩, hbel⟩
    · rw [h] at hb; cases hb
    · exact ⟨b, he, hc, hbel⟩

end Go.Proofs.Qxb6627561aFmt
