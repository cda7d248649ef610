import Derived.Test.Qxb6627519aW6
import Derived.Test.Qxb6627519aRowKit
namespace Go.Proofs.Qxb6627519a
open Go.ChangeShapes Go.WideShapes Go.ChangeAt Go.RowKit

theorem vld_out {P : Nat → Int} {n : Nat} (h : vld P n = true) : ∀ i, i < n → 0 ≤ P i ∧ P i ≤ i := of_decide_eq_true h

theorem graft_walk (ad bd : Option Addr) (n ca m cb : Nat) (P Q : Nat → Int) (O U : Nat → Bool) (r s : Bool) (t : Int) (w : World) (hA : Zs w ad n P O) (hB : Zs w bd m Q U) :
    Calls Try.prog 3 #[.slice ad n ca, .bool r, .slice bd m cb, .bool s, .int .i64 t] w fun e w' => e = .returned (.bool true) ∧ Below w.heap.size w w' := by
  by_cases h1 : n + m ≤ 1048576
  · by_cases h2 : n + m ≤ 65536
    · by_cases h3 : 0 ≤ t ∧ t ≤ n
      · by_cases hv : vld P n = true ∧ vld Q m = true
        · obtain ⟨k, rfl⟩ := Int.eq_ofNat_of_zero_le h3.1
          exact graft_main ad bd n ca m cb P Q O U r s k w h2 (by have := h3.2; omega) hA hB hv.1 hv.2 (vld_out hv.1) (vld_out hv.2)
        · exact graft_out4 ad bd n ca m cb P Q O U r s t w h1 h2 h3.1 h3.2 hA hB hv
      · exact graft_out3 ad bd n ca m cb r s t w h1 h2 h3
    · exact graft_out2 ad bd n ca m cb r s t w h1 h2
  · exact graft_out1 ad bd n ca m cb r s t w h1

set_option maxRecDepth 100000 in
theorem graft_lifted (os : Os) (started : os.Started) (H : Type) (enc : TypeId × Value → H) :
    ReturnsInHanded {} Try.checked os 3 .any (Rows.fnSizeGraftAddsSpec.pre6 enc Try.prog Try.f3 Rows.fnSizeGraftAddsRow.domain false) (Rows.fnSizeGraftAddsSpec.post enc Try.prog Try.f3 false true false false) := by
  refine returnsInHanded_of_change (C := Try.checked) own started (by kernel_rfl) Try.func3
    (ChangeSpec.witness6 (enc := enc) (C := Try.checked) false ⟨#[], #[.slice none 0 0, .bool false, .slice none 0 0, .bool false, .int .i64 0], []⟩ 8 (by kernel_rfl) (by kernel_rfl) (by kernel_rfl) (by kernel_rfl)) ?_
  intro W base args ds gs before hval0 hW hcnd _
  have hval : ∀ (j : Nat) t v, Try.f3.params[j]? = some t → args[j]? = some v → Value.okWide Try.prog W .any base t v := hval0
  have hW' := hW
  obtain ⟨p, q, hA0, hV, rfl, hfz, hnd⟩ := hW
  have hA : DataW.TrodAll enc Try.prog W 0 (fun _ => true) true Try.f3.params.toList args.toList ds p := hA0
  rw [Try.params3] at hA hval
  obtain ⟨v0, vs0, d0, ds0, p0, q0, hargs, rfl, rfl, h0, r0⟩ := trodAll_cons hA
  obtain ⟨v1, vs1, d1, ds1, p1, q1, rfl, rfl, rfl, h1, r1⟩ := trodAll_cons r0
  obtain ⟨v2, vs2, d2, ds2, p2, q2, rfl, rfl, rfl, h2, r2⟩ := trodAll_cons r1
  obtain ⟨v3, vs3, d3, ds3, p3, q3, rfl, rfl, rfl, h3, r3⟩ := trodAll_cons r2
  obtain ⟨v4, vs4, d4, ds4, p4, q4, rfl, rfl, rfl, h4, r4⟩ := trodAll_cons r3
  obtain ⟨rfl, rfl, rfl⟩ := trodAll_nil r4
  obtain rfl : args = #[v0, v1, v2, v3, v4] := by cases args; simp_all
  obtain ⟨rfl, rfl⟩ := trodVars_none hV
  obtain ⟨a0, len0, cap0, rfl⟩ := okWide_slice Try.underlying22 (hval 0 22 v0 rfl rfl)
  have k0 := h0
  have lt0 : ∀ x ∈ p0, x.block < W.heap.size := by obtain ⟨m, hm⟩ := k0; exact DataW.trod_lt m _ _ _ hm
  obtain ⟨P, O, z0⟩ := zs_of h0
  obtain ⟨b1, rfl, rfl, rfl⟩ := open_bool Try.underlying4 (hval 1 4 v1 rfl rfl) h1
  obtain ⟨a2, len2, cap2, rfl⟩ := okWide_slice Try.underlying22 (hval 2 22 v2 rfl rfl)
  have k2 := h2
  have lt2 : ∀ x ∈ p2, x.block < W.heap.size := by obtain ⟨m, hm⟩ := k2; exact DataW.trod_lt m _ _ _ hm
  obtain ⟨Q, U, z2⟩ := zs_of h2
  obtain ⟨b3, rfl, rfl, rfl⟩ := open_bool Try.underlying4 (hval 3 4 v3 rfl rfl) h3
  obtain ⟨t, rfl, rfl, rfl, wt⟩ := open_int Try.underlying3 (hval 4 3 v4 rfl rfl) h4
  clear hA0 hval0
  refine (graft_walk a0 a2 len0 cap0 len2 cap2 P Q O U b1 b3 t W z0 z2).mono fun e W' ⟨he, bel⟩ => ?_
  subst he
  exact ⟨_, rfl, _, _, _, [], _, [], hW', trodAll_mk1 (shut_bool Try.underlying4 _), (trodAll_cons_mk (Below.trod laidOut (by kernel_rfl) (of_decide_eq_true (by kernel_rfl)) k0 bel lt0) (trodAll_cons_mk (shut_bool Try.underlying4 _) (trodAll_cons_mk (Below.trod laidOut (by kernel_rfl) (of_decide_eq_true (by kernel_rfl)) k2 bel lt2) (trodAll_cons_mk (shut_bool Try.underlying4 _) (trodAll_cons_mk (shut_int Try.underlying3 wt) trodAll_mk0))))), rfl, bel.frame _, fun h => by cases h⟩

theorem fnSizeGraftAdds_proved : Rows.FnSizeGraftAddsSaid :=
  OpenClaim.holds_of_wide 3 Try.f3 rfl rfl rfl rfl rfl rfl rfl ⟨rfl, rfl, rfl, rfl, rfl⟩ rfl rfl rfl rfl rfl (by kernel_rfl) Try.func3 (by kernel_rfl)
    (of_decide_eq_true (by kernel_rfl)) (by unfold Func.isWrapper; first | (rw [if_pos (by decide +kernel)]; kernel_rfl) | (rw [if_neg (by decide +kernel)]; exact ⟨rfl, rfl⟩))
    (fun os started H enc _ => graft_lifted os started H enc)
end Go.Proofs.Qxb6627519a
