import Derived.Test.Qxb6627519aW5
namespace Go.Proofs.Qxb6627519a
open Go.RowKit

set_option maxHeartbeats 4000000 in
theorem graft_main (ad bd : Option Addr) (n ca m cb : Nat) (P Q : Nat → Int) (O U : Nat → Bool) (r s : Bool) (t : Nat) (w : World)
    (h2 : n + m ≤ 65536) (h4 : t ≤ n) (hA : Zs w ad n P O) (hB : Zs w bd m Q U) (hvA : vld P n = true) (hvB : vld Q m = true) (hP : ∀ i, i < n → 0 ≤ P i ∧ P i ≤ i) (hQ : ∀ i, i < m → 0 ≤ Q i ∧ Q i ≤ i) :
    Calls Try.prog 3 #[.slice ad n ca, .bool r, .slice bd m cb, .bool s, .int .i64 t] w fun e w' => e = .returned (.bool true) ∧ Below w.heap.size w w' := by
  have hd : decide (n + m ≤ 1048576) = true := decide_eq_true (by omega)
  have HA : Hid (Zs w ad n P O) := hA
  have HB : Hid (Zs w bd m Q U) := hB
  have HP : Hid (∀ i, i < n → 0 ≤ P i ∧ P i ≤ i) := hP
  have HQ : Hid (∀ i, i < m → 0 ≤ Q i ∧ Q i ≤ i) := hQ
  clear hA hB hP hQ
  go_enter Try.func3, Try.ntmps3
  go_wp2_with fail
  refine (bytesG_any _ _ _ _ _ _ _ _ _ _).mono ?_
  rintro e w1 ⟨rfl, hw⟩; replace hw := hw.symm; subst hw
  go_wp2_with fail
  refine (valid_any _ _ _ P O _ (by omega) HA.out).mono ?_
  rintro e w1 ⟨rfl, hw⟩; replace hw := hw.symm; subst hw
  go_wp2_with fail
  refine (valid_any _ _ _ Q U _ (by omega) HB.out).mono ?_
  rintro e w1 ⟨rfl, hw⟩; replace hw := hw.symm; subst hw
  go_wp2_with fail
  refine (build_any _ _ _ P O _ _ (by omega) HA.out HP.out).mono ?_
  rintro e wA ⟨blkA, itsA, fsA, tagA, rfl, hrowA, hFA, hKA, hBA⟩
  have HRA := hid hrowA
  have HFA := hid hFA
  have HKA := hid hKA
  have HBA := hid hBA
  have hszA : w.heap.size < wA.heap.size := hrowA.lt
  clear hrowA hFA hKA hBA
  go_wp2_with fail
  refine (build_any _ _ _ Q U _ _ (by omega) (HB.out.below HBA.out) HQ.out).mono ?_
  rintro e wB ⟨blkB, itsB, fsB, tagB, rfl, hrowB, hFB, hKB, hBB⟩
  have HRB := hid hrowB
  have HFB := hid hFB
  have HKB := hid hKB
  have HBB := hid hBB
  have hszB : wA.heap.size < wB.heap.size := hrowB.lt
  clear hrowB hFB hKB hBB
  have ca0 := (HBB.out.cell (p := ⟨w.heap.size, 0, none⟩) hszA).trans (HRA.out.cell (i := 0) (by omega))
  go_wp2_with fail
  refine (size_call (single_ok HP.out (by omega) HKA.out) 0 (by omega) _ (HFA.out.same (fun k _ hk => HBB.out.block k hk)).rd).mono ?_
  rintro e wC ⟨rfl, hBC⟩
  have HBC := hid hBC
  have hszC : wB.heap.size ≤ wC.heap.size := hBC.size
  clear hBC
  have cb0 := (HBC.out.cell (p := ⟨wA.heap.size, 0, none⟩) hszB).trans (HRB.out.cell (i := 0) (by omega))
  go_wp2_with fail
  refine (size_call (single_ok HQ.out (by omega) HKB.out) 0 (by omega) _ (HFB.out.same (fun k _ hk => HBC.out.block k hk)).rd).mono ?_
  rintro e wD ⟨rfl, hBD⟩
  have HBD := hid hBD
  have hszD : wC.heap.size ≤ wD.heap.size := hBD.size
  clear hBD ca0 cb0
  have HCD : Hid (Below wB.heap.size wB wD) := hid (HBC.out.trans (HBD.out.mono hszC))
  have HAD : Hid (Below wA.heap.size wA wD) := hid (HBB.out.trans (HCD.out.mono (by omega)))
  have HJ := hid (Fam.join HFA.out (HFB.out.same (w' := wD) (fun k _ hk => HCD.out.block k hk)) (fun k hk => HAD.out.block k hk) (by omega) (by omega))
  have cat := (HAD.out.cell (p := ⟨w.heap.size, t, none⟩) hszA).trans (HRA.out.cell (i := t) (by omega))
  have cb0 := (HCD.out.cell (p := ⟨wA.heap.size, 0, none⟩) hszB).trans (HRB.out.cell (i := 0) (by omega))
  obtain ⟨iv, fv, q1, q2, q3, q4, q5, q6, q7⟩ := HJ.out.node t (by omega)
  rw [joinF_lt (show t < n + 1 by omega)] at q1 q4 q5
  rw [joinF_lt (show t < n + 1 by omega)] at q1
  obtain ⟨y0, y9, y10, yf, yl⟩ := cell_node q1
  have ni : iv.ownBlock ≠ some (blkA t) := fun e => by have := q6 _ e; omega
  have nf : fv.ownBlock ≠ some (blkA t) := fun e => by have := q7 _ e; omega
  have NI := hid (Ne.symm ni)
  have NF := hid (Ne.symm nf)
  have Q1 := hid q1
  have Q2 := hid q2
  have Q3 := hid q3
  have yf9 := yf 9
  have yf10 := yf 10
  clear q1 q2 q3 q5 q6 q7 ni nf yf
  have ro : Pl.wgt (par P) n (fun _ => 1) 0 = n + 1 := by rw [Pl.wgt_root (par_le HP.out), Pl.sumTo_one]
  have so : Pl.wgt (par Q) m (fun _ => 1) 0 = m + 1 := by rw [Pl.wgt_root (par_le HQ.out), Pl.sumTo_one]
  rw [ro, so]
  clear ro so
  have hwA : w.heap.size < wD.heap.size := by omega
  have hne : blkA t ≠ w.heap.size := by omega
  have C0 : Hid (∀ o, (wD.alloc o).drew.cell? ⟨w.heap.size, 0, none⟩ = some (.pointer (some ⟨blkA 0, 0, none⟩))) := fun o => (World.cell?_alloc_past _ _ _ (show w.heap.size < wD.heap.size by omega)).trans ((HAD.out.cell (p := ⟨w.heap.size, 0, none⟩) hszA).trans (HRA.out.cell (i := 0) (by omega)))
  have N0 : Hid (∀ o, (wD.alloc o).drew.heap[blkA t]? = some (.cells (ncells (kind (joinF (n + 1) (obs r O) (obs s U) t)) iv fv) 37 (0, 0))) := fun o => (Below.heap_alloc wD o _ yl).trans (by rw [joinF_lt (show t < n + 1 by omega)]; exact Q1.out)
  have S0 : Hid (∀ o, (wD.alloc o).drew.heap.size = wD.heap.size + 1) := fun o => by show (wD.alloc o).heap.size = _; simp
  have HWD : Hid (Below w.heap.size w wD) := hid (HBA.out.trans (HAD.out.mono (by omega)))
  have nBi : iv.ownBlock ≠ some w.heap.size := fun e => by have := (owns_lt Q2.out e).1; omega
  have nBf : fv.ownBlock ≠ some w.heap.size := fun e => by have := (owns_lt Q3.out e).1; omega
  have NBI := hid (Ne.symm nBi)
  have NBF := hid (Ne.symm nBf)
  clear nBi nBf
  have hjm := join_mem HP.out HQ.out HKA.out HKB.out (by omega) (by omega) t (by omega)
  have hl1 : (joinF (n + 1) itsA (shI (n + 1) itsB) t).length ≤ 65536 := hjm.2.2.1
  have hl2 : (joinF (n + 1) fsA (shF (n + 1) fsB) t).length ≤ 65536 := hjm.2.2.2
  clear hjm
  cases hob : obs r O t
  · rw [hob] at y0
    clear hob
    have y0' : wD.cell? ⟨blkA t, 0, none⟩ = some (.int .i64 4) := y0
    clear y0
    obtain ⟨i0, hi, hz0, hz1, hz2⟩ := info_parts info27
    go_wp2_with fail
    go_region_law (refine step_append_lies _ (by rfl) _ _ _ (by rfl) (w.heap.size + 1) 27 i0 _ 1 8 Try.underlying25 hi hz0 hz1 hz2 rfl (by omega) iv (joinF (n + 1) itsA (shI (n + 1) itsB) t).length (ptrs ((joinF (n + 1) itsA (shI (n + 1) itsB) t).map (joinF (n + 1) blkA blkB))) (by rfl) ((Q2.out.alloc _).drew) ⟨wD.heap.size, 0, none⟩ 1 1 [.pointer (some ⟨blkB 0, 0, none⟩)] (by rfl) (by rfl) (World.news_of_block (cs := #[.pointer (some ⟨blkB 0, 0, none⟩)]) (t := 27) (fr := (0, 0)) (heap_alloc_new wD _)) (by simp [Value.oneCell']) (by omega) (by unfold maxLen; omega) (by omega) (by rw [S0.out]; omega) (wD.heap.size + 1) (S0.out _) ?_; intro g cap w3 hown hgrow hat hlt3; have n4 := hid ((hgrow.block _ (by rw [S0.out]; omega) NI.out).trans (N0.out _)); have z9 := (cell_node n4.out).2.1; have zf9 := (cell_node n4.out).2.2.2.1 9; have z0 := (hgrow.cell_far ⟨w.heap.size, 0, none⟩ (by rw [S0.out]; exact Nat.lt_succ_of_lt hwA) NBI.out).trans (C0.out _); have HH := hid (And.intro hown (And.intro hgrow hat)); clear hown hgrow hat)
    all_goals
      have hc := graft_item_call (ob := joinF (n + 1) (obs r O) (obs s U)) HP.out HQ.out HKA.out HKB.out (by omega) (by omega) (show t < n + 1 by omega) HJ.out (by rw [joinF_lt (show t < n + 1 by omega)]; exact Q1.out) _ HH.out.2.1 HH.out.1 HH.out.2.2
      have HC := hid hc
      clear hc
      go_wp2_with fail
      refine HC.out.mono ?_
      rintro e wE ⟨rfl, hBE⟩
      have HBE := hid hBE
      clear hBE
      go_wp2_with fail
      go_ret
      exact ⟨rfl, graft_below HWD.out HH.out.2.1 (fun k hk => by have := (owns_lt Q2.out hk).1; omega) (show w.heap.size ≤ blkA t by omega) HBE.out⟩
  · rw [hob] at y0
    clear hob
    have y0' : wD.cell? ⟨blkA t, 0, none⟩ = some (.int .i64 5) := y0
    clear y0
    obtain ⟨i0, hi, hz0, hz1, hz2⟩ := info_parts info39
    go_wp2_with fail
    go_region_law (refine step_append_lies _ (by rfl) _ _ _ (by rfl) (w.heap.size + 1) 39 i0 _ 5 48 Try.underlying35 hi hz0 hz1 hz2 rfl (by omega) fv (joinF (n + 1) fsA (shF (n + 1) fsB) t).length (fcells ((joinF (n + 1) fsA (shF (n + 1) fsB) t).map fun p => (p.1, joinF (n + 1) blkA blkB p.2))) (by rfl) ((Q3.out.alloc _).drew) ⟨wD.heap.size, 0, none⟩ 1 1 (fcells [(⟨#[98]⟩, blkB 0)]) (by rfl) (by rfl) (World.news_of_block (cs := #[.string ⟨#[98]⟩, .int .i64 0, .int .i64 1, .int .i64 1, .pointer (some ⟨blkB 0, 0, none⟩)]) (t := 39) (fr := (0, 0)) (heap_alloc_new wD _)) (by simp [fcells, Value.oneCell']) (by omega) (by unfold maxLen; omega) (by omega) (by rw [S0.out]; omega) (wD.heap.size + 1) (S0.out _) ?_; intro g cap w3 hown hgrow hat hlt3; have n4 := hid ((hgrow.block _ (by rw [S0.out]; omega) NF.out).trans (N0.out _)); have z10 := (cell_node n4.out).2.2.1; have zf10 := (cell_node n4.out).2.2.2.1 10; have z0 := (hgrow.cell_far ⟨w.heap.size, 0, none⟩ (by rw [S0.out]; exact Nat.lt_succ_of_lt hwA) NBF.out).trans (C0.out _); have HH := hid (And.intro hown (And.intro hgrow hat)); clear hown hgrow hat)
    all_goals
      have hc := graft_field_call (ob := joinF (n + 1) (obs r O) (obs s U)) ⟨#[98]⟩ HP.out HQ.out HKA.out HKB.out (by omega) (by omega) (show t < n + 1 by omega) HJ.out (by rw [joinF_lt (show t < n + 1 by omega)]; exact Q1.out) _ HH.out.2.1 HH.out.1 HH.out.2.2
      have HC := hid hc
      clear hc
      go_wp2_with fail
      refine HC.out.mono ?_
      rintro e wE ⟨rfl, hBE⟩
      have HBE := hid hBE
      clear hBE
      go_wp2_with fail
      go_ret
      exact ⟨rfl, graft_below HWD.out HH.out.2.1 (fun k hk => by have := (owns_lt Q3.out hk).1; omega) (show w.heap.size ≤ blkA t by omega) HBE.out⟩

end Go.Proofs.Qxb6627519a
