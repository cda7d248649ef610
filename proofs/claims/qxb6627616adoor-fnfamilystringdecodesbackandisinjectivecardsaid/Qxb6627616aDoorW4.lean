import Derived.Test.Qxb6627616aDoorPl
import Derived.Lib.SmallJoins
namespace Go.Proofs.Qxb6627616aDoor
open Go.RowKit Go.Lib

/-! ### Two families with one text are one -/
def valD (l : List UInt8) : Nat := l.foldl (fun a d => a * 10 + (d.toNat - 48)) 0

theorem dig_val {d : Nat} (h : d < 10) : (UInt8.ofNat (48 + d)).toNat - 48 = d := by
  rw [UInt8.toNat_ofNat', Nat.mod_eq_of_lt (by omega)]; omega

theorem valD_dec (u : Nat) : valD (decDigits u) = u := by
  induction u using Nat.strongRecOn with
  | _ u ih =>
    by_cases h : u < 10
    · rw [decDigits_one h]
      show 0 * 10 + _ = u
      rw [dig_val h]; omega
    · rw [decDigits, dif_neg h]
      unfold valD
      rw [List.foldl_append]
      have := ih (u / 10) (by omega)
      unfold valD at this
      rw [this]
      show u / 10 * 10 + _ = u
      rw [dig_val (Nat.mod_lt _ (by omega))]; omega

theorem dec_head (u : Nat) : ∀ x ∈ decDigits u, x ≠ 45 := by
  intro x hx e
  rw [decDigits_eq] at hx
  obtain ⟨t, -, rfl⟩ := List.mem_map.1 hx
  have h10 : u / 10 ^ (nDigits u - 1 - t) % 10 < 10 := Nat.mod_lt _ (by omega)
  unfold dg at e
  have := congrArg UInt8.toNat e
  rw [UInt8.toNat_ofNat', Nat.mod_eq_of_lt (by omega)] at this
  have h45 : (45 : UInt8).toNat = 45 := rfl
  omega

theorem itoa_inj {a b : Int} (h : itoa a = itoa b) : a = b := by
  by_cases ha : a < 0 <;> by_cases hb : b < 0
  · obtain ⟨u, rfl⟩ : ∃ u : Nat, a = -(u : Int) := ⟨a.natAbs, by omega⟩
    obtain ⟨v, rfl⟩ : ∃ v : Nat, b = -(v : Int) := ⟨b.natAbs, by omega⟩
    rw [itoa_neg u (by omega), itoa_neg v (by omega)] at h
    have := congrArg valD (List.cons.inj h).2
    rw [valD_dec, valD_dec] at this
    rw [this]
  · obtain ⟨u, rfl⟩ : ∃ u : Nat, a = -(u : Int) := ⟨a.natAbs, by omega⟩
    obtain ⟨v, rfl⟩ : ∃ v : Nat, b = v := ⟨b.toNat, by omega⟩
    rw [itoa_neg u (by omega), itoa_nonneg] at h
    exact absurd rfl (dec_head v 45 (h ▸ List.mem_cons_self))
  · obtain ⟨u, rfl⟩ : ∃ u : Nat, a = u := ⟨a.toNat, by omega⟩
    obtain ⟨v, rfl⟩ : ∃ v : Nat, b = -(v : Int) := ⟨b.natAbs, by omega⟩
    rw [itoa_neg v (by omega), itoa_nonneg] at h
    exact absurd rfl (dec_head u 45 (h ▸ List.mem_cons_self))
  · obtain ⟨u, rfl⟩ : ∃ u : Nat, a = u := ⟨a.toNat, by omega⟩
    obtain ⟨v, rfl⟩ : ∃ v : Nat, b = v := ⟨b.toNat, by omega⟩
    rw [itoa_nonneg, itoa_nonneg] at h
    have := congrArg valD h
    rw [valD_dec, valD_dec] at this
    rw [this]

/-- The text as a list of bytes. -/
theorem fstr_list (a : Int) : (fstr a).data.toList = if a = 1 then [105, 112, 118, 52] else if a = 2 then [105, 112, 118, 54] else pre7 ++ itoa a ++ [41] := by
  unfold fstr
  split
  · rfl
  · split
    · rfl
    · rw [data_app]

theorem fstr_inj {a b : Int} (h : (fstr a).toList = (fstr b).toList) : a = b := by
  rw [ByteArray.toList_eq, ByteArray.toList_eq, fstr_list, fstr_list] at h
  by_cases a1 : a = 1 <;> by_cases b1 : b = 1 <;> by_cases a2 : a = 2 <;> by_cases b2 : b = 2
  all_goals first | omega | skip
  all_goals simp [a1, b1, a2, b2] at h
  all_goals exact itoa_inj h

theorem fstr_ne {a b : Int} (h : ¬ a = b) : ((fstr a).toList == (fstr b).toList) = false := beq_eq_false_iff_ne.2 fun e => h (fstr_inj e)

theorem gPow : Tryd.prog.globalNamed "internal/strconv.uint64pow10" = some 0 := by kernel_rfl

set_option maxHeartbeats 1000000 in
theorem law_any (a b : Int) (w : World) (htab : Tab w) (ha0 : -9223372036854775808 ≤ a) (ha1 : a ≤ 9223372036854775807) (hb0 : -9223372036854775808 ≤ b) (hb1 : b ≤ 9223372036854775807) :
    Calls Tryd.prog 3 #[.int .i64 a, .int .i64 b] w fun e w' => e = .returned (.bool true) ∧ Below w.heap.size w w' := by
  have H := hid (⟨htab, ha0, ha1, hb0, hb1⟩ : Tab w ∧ -9223372036854775808 ≤ a ∧ a ≤ 9223372036854775807 ∧ -9223372036854775808 ≤ b ∧ b ≤ 9223372036854775807)
  clear htab ha0 ha1 hb0 hb1
  by_cases hab : a = b
  · subst hab
    go_enter Tryd.func3, Tryd.ntmps3
    go_wp2_with fail
    refine (string_any a H.out.2.1 H.out.2.2.1 _ H.out.1).mono ?_
    rintro e w1 ⟨rfl, h1⟩
    have H1 := hid h1
    clear h1
    go_wp2_with fail
    refine (string_any a H.out.2.1 H.out.2.2.1 _ (Go.Joins.tab_stays gPow H.out.1 H1.out (Nat.le_refl _))).mono ?_
    rintro e w2 ⟨rfl, h2⟩
    have H2 := hid (H1.out.trans (h2.mono H1.out.size))
    clear h2 H1
    go_wp2_with fail
    refine (decode_any a H.out.2.1 H.out.2.2.1 _).mono ?_
    rintro e w3 ⟨rfl, h3⟩
    have H3 := hid (H2.out.trans (h3.mono H2.out.size))
    clear h3 H2
    go_wp2_with fail
    refine (decode_any a H.out.2.1 H.out.2.2.1 _).mono ?_
    rintro e w4 ⟨rfl, h4⟩
    have H4 := hid (H3.out.trans (h4.mono H3.out.size))
    clear h4 H3
    go_wp2_with fail
    go_ret
    exact ⟨rfl, H4.out⟩
  · have hn := fstr_ne hab
    have hm : (a == b) = false := beq_eq_false_iff_ne.2 hab
    clear hab
    go_enter Tryd.func3, Tryd.ntmps3
    go_wp2_with fail
    refine (string_any a H.out.2.1 H.out.2.2.1 _ H.out.1).mono ?_
    rintro e w1 ⟨rfl, h1⟩
    have H1 := hid h1
    clear h1
    go_wp2_with fail
    refine (string_any b H.out.2.2.2.1 H.out.2.2.2.2 _ (Go.Joins.tab_stays gPow H.out.1 H1.out (Nat.le_refl _))).mono ?_
    rintro e w2 ⟨rfl, h2⟩
    have H2 := hid (H1.out.trans (h2.mono H1.out.size))
    clear h2 H1
    go_wp2_with fail
    refine (decode_any a H.out.2.1 H.out.2.2.1 _).mono ?_
    rintro e w3 ⟨rfl, h3⟩
    have H3 := hid (H2.out.trans (h3.mono H2.out.size))
    clear h3 H2
    go_wp2_with fail
    refine (decode_any b H.out.2.2.2.1 H.out.2.2.2.2 _).mono ?_
    rintro e w4 ⟨rfl, h4⟩
    have H4 := hid (H3.out.trans (h4.mono H3.out.size))
    clear h4 H3
    go_wp2_with fail
    go_ret
    exact ⟨rfl, H4.out⟩

end Go.Proofs.Qxb6627616aDoor
