import Derived.Test.Qxb6627519aW8
import Derived.Test.Qxb6627519aRowKit
namespace Go.Proofs.Qxb6627519a
open Go.ChangeShapes Go.WideShapes Go.ChangeAt Go.RowKit

theorem vldC_out {P : Nat → Int} {n : Nat} (h : vld P n = true) : ∀ i, i < n → 0 ≤ P i ∧ P i ≤ i := of_decide_eq_true h

theorem cut_walk (ad : Option Addr) (n ca : Nat) (P : Nat → Int) (O : Nat → Bool) (r : Bool) (t : Int) (w : World) (hA : Zs w ad n P O) :
    Calls Try.prog 4 #[.slice ad n ca, .bool r, .int .i64 t] w fun e w' => e = .returned (.bool true) ∧ Below w.heap.size w w' := by
  by_cases h1 : n ≤ 1048576
  · by_cases h2 : n ≤ 65536
    · by_cases h3 : 1 ≤ t ∧ t ≤ n
      · cases hv : vld P n
        · exact cut_out4 ad n ca P O r t w h1 h2 h3.1 h3.2 hA hv
        · obtain ⟨k, rfl⟩ := Int.eq_ofNat_of_zero_le (show 0 ≤ t by omega)
          exact cut_main ad n ca P O r k w h2 (by have := h3.1; omega) (by have := h3.2; omega) hA hv (vldC_out hv)
      · exact cut_out3 ad n ca r t w h1 h2 h3
    · exact cut_out2 ad n ca r t w h1 h2
  · exact cut_out1 ad n ca r t w h1

set_option maxRecDepth 100000 in
theorem cut_lifted (os : Os) (started : os.Started) (H : Type) (enc : TypeId × Value → H) :
    ReturnsInHanded {} Try.checked os 4 .any (Rows.fnSizeCutSubtractsSpec.pre6 enc Try.prog Try.f4 Rows.fnSizeCutSubtractsRow.domain false) (Rows.fnSizeCutSubtractsSpec.post enc Try.prog Try.f4 false true false false) := by
  refine returnsInHanded_of_change (C := Try.checked) own started (by kernel_rfl) Try.func4
    (ChangeSpec.witness6 (enc := enc) (C := Try.checked) false ⟨#[], #[.slice none 0 0, .bool false, .int .i64 0], []⟩ 8 (by kernel_rfl) (by kernel_rfl) (by kernel_rfl) (by kernel_rfl)) ?_
  intro W base args ds gs before hval0 hW hcnd _
  have hval : ∀ (j : Nat) t v, Try.f4.params[j]? = some t → args[j]? = some v → Value.okWide Try.prog W .any base t v := hval0
  have hW' := hW
  obtain ⟨p, q, hA0, hV, rfl, hfz, hnd⟩ := hW
  have hA : DataW.TrodAll enc Try.prog W 0 (fun _ => true) true Try.f4.params.toList args.toList ds p := hA0
  rw [Try.params4] at hA hval
  obtain ⟨v0, vs0, d0, ds0, p0, q0, hargs, rfl, rfl, h0, r0⟩ := trodAll_cons hA
  obtain ⟨v1, vs1, d1, ds1, p1, q1, rfl, rfl, rfl, h1, r1⟩ := trodAll_cons r0
  obtain ⟨v2, vs2, d2, ds2, p2, q2, rfl, rfl, rfl, h2, r2⟩ := trodAll_cons r1
  obtain ⟨rfl, rfl, rfl⟩ := trodAll_nil r2
  obtain rfl : args = #[v0, v1, v2] := by cases args; simp_all
  obtain ⟨rfl, rfl⟩ := trodVars_none hV
  obtain ⟨a0, len0, cap0, rfl⟩ := okWide_slice Try.underlying22 (hval 0 22 v0 rfl rfl)
  have k0 := h0
  have lt0 : ∀ x ∈ p0, x.block < W.heap.size := by obtain ⟨m, hm⟩ := k0; exact DataW.trod_lt m _ _ _ hm
  obtain ⟨P, O, z0⟩ := zs_of h0
  obtain ⟨b1, rfl, rfl, rfl⟩ := open_bool Try.underlying4 (hval 1 4 v1 rfl rfl) h1
  obtain ⟨t, rfl, rfl, rfl, wt⟩ := open_int Try.underlying3 (hval 2 3 v2 rfl rfl) h2
  clear hA0 hval0
  refine (cut_walk a0 len0 cap0 P O b1 t W z0).mono fun e W' ⟨he, bel⟩ => ?_
  subst he
  exact ⟨_, rfl, _, _, _, [], _, [], hW', trodAll_mk1 (shut_bool Try.underlying4 _), (trodAll_cons_mk (Below.trod laidOut (by kernel_rfl) (of_decide_eq_true (by kernel_rfl)) k0 bel lt0) (trodAll_cons_mk (shut_bool Try.underlying4 _) (trodAll_cons_mk (shut_int Try.underlying3 wt) trodAll_mk0))), rfl, bel.frame _, fun h => by cases h⟩

theorem fnSizeCutSubtracts_proved : Rows.FnSizeCutSubtractsSaid :=
  OpenClaim.holds_of_wide 4 Try.f4 rfl rfl rfl rfl rfl rfl rfl ⟨rfl, rfl, rfl, rfl, rfl⟩ rfl rfl rfl rfl rfl (by kernel_rfl) Try.func4 (by kernel_rfl)
    (of_decide_eq_true (by kernel_rfl)) (by unfold Func.isWrapper; first | (rw [if_pos (by decide +kernel)]; kernel_rfl) | (rw [if_neg (by decide +kernel)]; exact ⟨rfl, rfl⟩))
    (fun os started H enc _ => cut_lifted os started H enc)
end Go.Proofs.Qxb6627519a
