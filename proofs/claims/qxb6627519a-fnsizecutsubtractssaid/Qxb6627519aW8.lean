import Derived.Test.Qxb6627519aW7
import Derived.Test.Qxb6627519aPtr
namespace Go.Proofs.Qxb6627519a
set_option maxRecDepth 100000
open Go.RowKit

set_option maxHeartbeats 4000000 in
theorem cut_main (ad : Option Addr) (n ca : Nat) (P : Nat → Int) (O : Nat → Bool) (r : Bool) (k : Nat) (w : World)
    (h2 : n ≤ 65536) (h3 : 1 ≤ k) (h4 : k ≤ n) (hA : Zs w ad n P O) (hvA : vld P n = true) (hP : ∀ i, i < n → 0 ≤ P i ∧ P i ≤ i) :
    Calls Try.prog 4 #[.slice ad n ca, .bool r, .int .i64 k] w fun e w' => e = .returned (.bool true) ∧ Below w.heap.size w w' := by
  have hd : decide (n ≤ 1048576) = true := decide_eq_true (by omega)
  have HA : Hid (Zs w ad n P O) := hA
  have HP : Hid (∀ i, i < n → 0 ≤ P i ∧ P i ≤ i) := hP
  clear hA hP
  go_enter Try.func4, Try.ntmps4
  go_wp2_with fail
  refine (bytesC_any _ _ _ _ _ _).mono ?_
  rintro e w1 ⟨rfl, hw⟩; replace hw := hw.symm; subst hw
  go_wp2_with fail
  refine (valid_any _ _ _ P O _ (by omega) HA.out).mono ?_
  rintro e w1 ⟨rfl, hw⟩; replace hw := hw.symm; subst hw
  go_wp2_with fail
  refine (build_any _ _ _ P O _ _ (by omega) HA.out HP.out).mono ?_
  rintro e wA ⟨blk, its, fs, tag, rfl, hrowA, hFA, hKA, hBA⟩
  have HRA := hid hrowA
  have HFA := hid hFA
  have HKA := hid hKA
  have HBA := hid hBA
  have hszA : w.heap.size < wA.heap.size := hrowA.lt
  have HZ : Hid (Zs wA ad n P O) := hid (HA.out.below hBA)
  clear hrowA hFA hKA hBA
  go_wp2_with fail
  go_loop [8, 9] (fun wv jv => ∃ j : Nat, j ≤ n + 1 ∧ jv = .int .i64 j ∧ wv = .int .i64 (Pl.sumTo (fun x => Pl.b2n (Pl.hit (par P) k x)) j : Nat)) (fun _ jv => n + 1 - (intOf jv).toNat)
  case atStart => exact ⟨0, by omega, rfl, rfl⟩
  case round =>
    obtain ⟨j, hj, rfl, rfl⟩ := hrel
    have hle : Pl.sumTo (fun x => Pl.b2n (Pl.hit (par P) k x)) j ≤ j := by
      have h := Pl.sumTo_le (f := fun x => Pl.b2n (Pl.hit (par P) k x)) (g := fun _ => 1) j (fun i _ => by show Pl.b2n _ ≤ 1; unfold Pl.b2n; split <;> omega)
      rwa [Pl.sumTo_one] at h
    generalize hs0 : Pl.sumTo (fun x => Pl.b2n (Pl.hit (par P) k x)) j = s0 at *
    have HS0 := hid hs0
    clear hs0
    by_cases hjn : j ≤ n
    · go_wp2_with fail
      go_loop [10] (fun xv => ∃ x : Nat, x ≤ j ∧ xv = .int .i64 x ∧ Pl.hit (par P) k x = Pl.hit (par P) k j) (fun xv => (intOf xv).toNat)
      case atStart => exact ⟨j, Nat.le_refl _, rfl, rfl⟩
      case round =>
        obtain ⟨x, hx, rfl, hhit⟩ := hrel
        have HH := hid hhit
        clear hhit
        by_cases hkx : k < x
        · obtain ⟨b, off, rfl, c0, c1⟩ := HZ.out (x - 1) (by omega)
          obtain ⟨hp0, hp1⟩ := HP.out (x - 1) (by omega)
          clear c1
          have HU := hid (Pl.hit_up (par_le HP.out) hkx (show x ≤ n by omega))
          go_wp2_with fail
          go_round
          case rel => exact ⟨(P (x - 1)).toNat, by omega, by go_num, HU.out.symm.trans HH.out⟩
          case measure => simp [intOf]; omega
        · by_cases hxk : x = k
          · subst hxk
            have HY : Hid (Pl.sumTo (fun y => Pl.b2n (Pl.hit (par P) x y)) (j + 1) = s0 + 1) := by
              show _ = _
              rw [Pl.sumTo, HS0.out, ← HH.out, Pl.hit_self]; rfl
            have hxx : ((x : Int) == (x : Int)) = true := by simp
            go_wp2_with fail
            go_round
            case rel => exact ⟨j + 1, by omega, by go_num, by rw [HY.out]; go_num⟩
            case measure => simp [intOf]; omega
          · have HY : Hid (Pl.sumTo (fun y => Pl.b2n (Pl.hit (par P) k y)) (j + 1) = s0) := by
              show _ = _
              rw [Pl.sumTo, HS0.out, ← HH.out, Pl.hit_low hkx, beq_eq_false_iff_ne.2 hxk]; rfl
            have hxx : ((x : Int) == (k : Int)) = false := by simp; omega
            go_wp2_with fail
            go_round
            case rel => exact ⟨j + 1, by omega, by go_num, by rw [HY.out]⟩
            case measure => simp [intOf]; omega
    · have hj1 : j = n + 1 := by omega
      subst hj1
      have hs1 : s0 = Pl.wgt (par P) n (fun _ => 1) k := by rw [← HS0.out]; exact want_eq P n k
      subst hs1
      clear HS0 hjn hj
      have ca0 := HRA.out.cell (i := 0) (by omega)
      go_wp2_with fail
      refine (size_call (single_ok HP.out (by omega) HKA.out) 0 (by omega) _ HFA.out.rd).mono ?_
      rintro e wB ⟨rfl, hBB⟩
      have HBB := hid hBB
      have hszB : wA.heap.size ≤ wB.heap.size := hBB.size
      clear hBB ca0
      have cak := (HBB.out.cell (p := ⟨w.heap.size, k, none⟩) hszA).trans (HRA.out.cell (i := k) (by omega))
      go_wp2_with fail
      refine (size_call (single_ok HP.out (by omega) HKA.out) k (by omega) _ (HFA.out.same (fun k _ hk => HBB.out.block k hk)).rd).mono ?_
      rintro e wC ⟨rfl, hBC⟩
      have HBC := hid hBC
      have hszC : wB.heap.size ≤ wC.heap.size := hBC.size
      clear hBC cak
      have HAC : Hid (Below wA.heap.size wA wC) := hid (HBB.out.trans (HBC.out.mono hszB))
      have HFC := hid (HFA.out.same (w' := wC) (fun k _ hk => HAC.out.block k hk))
      have HZC : Hid (Zs wC ad n P O) := hid (HZ.out.below HAC.out)
      have cak := (HAC.out.cell (p := ⟨w.heap.size, k, none⟩) hszA).trans (HRA.out.cell (i := k) (by omega))
      obtain ⟨hp0, hp1⟩ := HP.out (k - 1) (by omega)
      have caq := (HAC.out.cell (p := ⟨w.heap.size, (P (k - 1)).toNat, none⟩) hszA).trans (HRA.out.cell (i := (P (k - 1)).toNat) (by omega))
      obtain ⟨b, off, rfl, c0, c1⟩ := HZC.out (k - 1) (by omega)
      obtain ⟨iv, fv, q1, q2, q3, q4, q5, q6, q7⟩ := HFC.out.node (par P (k - 1)) (by unfold par; omega)
      have q1' : wC.heap[blk (P (k - 1)).toNat]? = some (.cells (ncells (kind (obs r O (par P (k - 1)))) iv fv) 37 (0, 0)) := q1
      obtain ⟨y0, y9, y10, yf, yl⟩ := cell_node q1'
      have Q1 := hid q1'
      have Q2 := hid q2
      have Q3 := hid q3
      have q4' : w.heap.size + 1 ≤ blk (P (k - 1)).toNat := q4
      clear c1 q1 q2 q3 q5 q6 q7 q4 yf q1'
      have ro : Pl.wgt (par P) n (fun _ => 1) 0 = n + 1 := by rw [Pl.wgt_root (par_le HP.out), Pl.sumTo_one]
      rw [ro]
      clear ro
      have hSle : Pl.wgt (par P) n (fun _ => 1) k ≤ n + 1 := by have := Pl.wgt_le (par := par P) (n := n) (fun _ => 1) k; rwa [Pl.sumTo_one] at this
      generalize hS : Pl.wgt (par P) n (fun _ => 1) k = S at *
      have HSS := hid hS
      clear hS
      have hkm := kids_mem HKA.out (j := par P (k - 1)) (by unfold par; omega)
      have hl1 : (its (par P (k - 1))).length ≤ 65536 := by omega
      have hl2 : (fs (par P (k - 1))).length ≤ 65536 := by omega
      clear hkm
      have hlk : blk k < wC.heap.size := by obtain ⟨_, _, a1, _⟩ := HFC.out.node k (by omega); exact lt_of_blk a1
      cases hob : obs r O (par P (k - 1))
      · rw [hob] at y0
        have HO := hid hob
        clear hob
        have y0' : wC.cell? ⟨blk (P (k - 1)).toNat, 0, none⟩ = some (.int .i64 4) := y0
        clear y0 y10
        obtain ⟨ia, icap, rfl, hia, hic⟩ := owns_read Q2.out
        have HIA := hid hia
        have HIC := hid hic
        clear hia hic
        generalize hL : its (par P (k - 1)) = L at *
        have HL := hid hL
        clear hL
        obtain ⟨i0, hi, hz0, hz1, hz2⟩ := info_parts info27
        have hby : i0.bytes * L.length ≤ 281474976710656 := by rw [hz2]; omega
        go_wp2_with (at_make; refine wpList_make_own _ rfl _ _ 25 rfl wC.heap.size 27 i0 (.pointer none) 1 Try.underlying25 hi hz0 hz1 _ _ _ L.length rfl rfl rfl hby (by unfold maxLen; omega) (Nat.le_refl _) ?_; intro w1 hown1 hgrow1; have HM := hid (And.intro hown1 hgrow1); clear hown1 hgrow1)
        go_loopw [17, 18] (fun v iv wr => ∃ q : Nat, q ≤ L.length ∧ iv = .int .i64 q ∧ KI wC wr blk k L q v) (fun _ iv _ => L.length - (intOf iv).toNat)
        case atStart => exact ⟨0, Nat.zero_le _, rfl, KI.start HM.out.1 HM.out.2⟩
        case round =>
          clear HM
          obtain ⟨q, hq, rfl, g, cap, rfl, hgl, hown, hbel⟩ := hrel
          have HOW := hid hown
          have HBL := hid hbel
          have z9 := (hbel.cell (p := ⟨blk (P (k - 1)).toNat, 9, none⟩) yl).trans y9
          have hsr : wC.heap.size ≤ wr.heap.size := hbel.size
          clear hown hbel
          by_cases hql : q < L.length
          · obtain ⟨g0, rfl, hcg⟩ := HIC.out q (.pointer (some ⟨blk L[q], 0, none⟩)) (by simp [ptrs, hql])
            obtain ⟨g1, hg1, hg0⟩ := HIA.out rfl
            simp at hg1; subst hg1
            have hcg' := (HBL.out.cell (p := ⟨g0, q, none⟩) hg0).trans hcg
            clear hcg
            by_cases hck : L[q] = k
            · rw [hck] at hcg'
              have hnq := neq_same ⟨blk k, 0, none⟩ wr
              have HFL := hid (filt_hit hql hck)
              go_wp2_with fail
              go_roundw
              case rel => exact ⟨q + 1, by omega, by go_num, g, cap, by rw [HFL.out], hgl, by rw [HFL.out]; exact HOW.out, HBL.out⟩
              case measure => simp [intOf]; omega
            · have hLn : L[q] < n + 1 := HFC.out.ilt (par P (k - 1)) (by unfold par; omega) _ (by rw [HL.out]; exact List.getElem_mem hql)
              have hbb : blk L[q] ≠ blk k := fun e => hck (HFC.out.blk_inj hLn (by omega) e)
              obtain ⟨_, _, m1, _⟩ := HFC.out.node L[q] hLn
              obtain ⟨_, _, m2, _⟩ := HFC.out.node k (by omega)
              have hnq := neq_other wr hbb ((HBL.out.block _ (lt_of_blk m1)).trans m1) ((HBL.out.block _ hlk).trans m2)
              have hfl := filt_len k L q
              clear m1 m2
              go_wp2_with (at_builtin; refine wpList_append_lies _ rfl _ _ _ rfl wC.heap.size 27 i0 (.pointer none) 1 8 Try.underlying25 hi hz0 hz1 hz2 rfl (by decide) _ (keepI k L q).length (ptrs ((keepI k L q).map blk)) rfl (HOW.out.alloc _) ⟨wr.heap.size, 0, none⟩ 1 1 [.pointer (some ⟨blk L[q], 0, none⟩)] rfl rfl (World.news_of_block (cs := #[.pointer (some ⟨blk L[q], 0, none⟩)]) (t := 27) (fr := (0, 0)) (heap_alloc_new wr _)) (by simp [Value.oneCell']) (by omega) (by unfold maxLen; omega) (by omega) (by simp; omega) (wr.heap.size + 1) (by simp) ?_; intro g' cap' w3 hown3 hgrow3 hat3 hlt3; have HH := hid (KI.grow hql hck hgl HBL.out hgrow3 hown3 hat3); clear hown3 hgrow3 hat3 hlt3)
              go_roundw
              case rel => exact ⟨q + 1, by omega, by go_num, HH.out⟩
              case measure => simp [intOf]; omega
          · have hqe : q = L.length := by omega
            subst hqe
            have hfl := filt_len k L L.length
            have zf9 := (HBL.out.frozen (p := ⟨blk (P (k - 1)).toNat, 9, none⟩) yl).trans (by simpa using (cell_node Q1.out).2.2.2.1 9)
            have z0 := ((HAC.out.trans (HBL.out.mono (by omega))).cell (p := ⟨w.heap.size, 0, none⟩) hszA).trans (HRA.out.cell (i := 0) (by omega))
            have hne0 : blk (P (k - 1)).toNat ≠ w.heap.size := by omega
            have hR := HFC.out.putI (q := par P (k - 1)) (by unfold par; omega) HBL.out HOW.out
            have eL : upd its (par P (k - 1)) (keepI k L L.length) = upd its (par P (k - 1)) ((its (par P (k - 1))).filter fun c => decide (c ≠ k)) := by rw [filt_all, HL.out]
            rw [eL] at hR
            have HC : Hid (Calls Try.prog 8 #[.pointer (some ⟨blk 0, 0, none⟩)] (wr.setCell ⟨blk (P (k - 1)).toNat, 9, none⟩ (.slice (some ⟨g, 0, none⟩) (keepI k L L.length).length cap)) fun e w' => e = .returned (.int .i64 (Pl.wgt (par P) n (wtC P k) 0 : Nat)) ∧
                Below (wr.setCell ⟨blk (P (k - 1)).toNat, 9, none⟩ (.slice (some ⟨g, 0, none⟩) (keepI k L L.length).length cap)).heap.size (wr.setCell ⟨blk (P (k - 1)).toNat, 9, none⟩ (.slice (some ⟨g, 0, none⟩) (keepI k L L.length).length cap)) w') :=
              hid (cut_item_call HP.out HKA.out h2 h3 HO.out hR)
            have hfin : Pl.wgt (par P) n (wtC P k) 0 + S = n + 1 := by rw [← HSS.out]; exact wgtC_root HP.out k
            generalize hT : Pl.wgt (par P) n (wtC P k) 0 = T at *
            have hT1 : (T : Int) = (n : Int) + 1 - (S : Int) := by omega
            have HWR : Hid (Below w.heap.size w (wr.setCell ⟨blk (P (k - 1)).toNat, 9, none⟩ (.slice (some ⟨g, 0, none⟩) (keepI k L L.length).length cap))) :=
              hid (((HBA.out.trans (HAC.out.mono (by omega))).trans (HBL.out.mono (by omega))).setCell (show w.heap.size ≤ blk (P (k - 1)).toNat by omega) _)
            clear hR eL hfin hT
            go_wp2_with fail
            refine HC.out.mono ?_
            rintro e wE ⟨rfl, hBE⟩
            have HBE := hid hBE
            clear hBE
            go_wp2_with fail
            go_ret
            exact ⟨rfl, HWR.out.trans (HBE.out.mono HWR.out.size)⟩
      · rw [hob] at y0
        have HO := hid hob
        clear hob
        have y0' : wC.cell? ⟨blk (P (k - 1)).toNat, 0, none⟩ = some (.int .i64 5) := y0
        clear y0 y9
        obtain ⟨ia, icap, rfl, hia, hic⟩ := owns_read Q3.out
        have HIA := hid hia
        have HIC := hid hic
        clear hia hic
        generalize hL : fs (par P (k - 1)) = L at *
        have HL := hid hL
        clear hL
        obtain ⟨i0, hi, hz0, hz1, hz2⟩ := info_parts info39
        have hby : i0.bytes * L.length ≤ 281474976710656 := by rw [hz2]; omega
        go_wp2_with (at_make; refine wpList_make_own _ rfl _ _ 35 rfl wC.heap.size 39 i0 _ 5 Try.underlying35 hi hz0 hz1 _ _ _ L.length rfl rfl rfl hby (by unfold maxLen; omega) (Nat.le_refl _) ?_; intro w1 hown1 hgrow1; have HM := hid (And.intro hown1 hgrow1); clear hown1 hgrow1)
        go_loopw [15, 16] (fun v iv wr => ∃ q : Nat, q ≤ L.length ∧ iv = .int .i64 q ∧ KF wC wr blk k L q v) (fun _ iv _ => L.length - (intOf iv).toNat)
        case atStart => exact ⟨0, Nat.zero_le _, rfl, KF.start HM.out.1 HM.out.2⟩
        case round =>
          clear HM
          obtain ⟨q, hq, rfl, g, cap, rfl, hgl, hown, hbel⟩ := hrel
          have HOW := hid hown
          have HBL := hid hbel
          have z10 := (hbel.cell (p := ⟨blk (P (k - 1)).toNat, 10, none⟩) yl).trans y10
          have hsr : wC.heap.size ≤ wr.heap.size := hbel.size
          clear hown hbel
          by_cases hql : q < L.length
          · obtain ⟨k0, k1, k2, k3, k4⟩ := fcells_at (L.map fun p => (p.1, blk p.2)) q (L[q].1, blk L[q].2) (by simp [hql])
            obtain ⟨g0, rfl, d0⟩ := HIC.out _ _ k0
            obtain ⟨ga, ea, d1⟩ := HIC.out _ _ k1
            simp at ea; subst ea
            obtain ⟨ga, ea, d2⟩ := HIC.out _ _ k2
            simp at ea; subst ea
            obtain ⟨ga, ea, d3⟩ := HIC.out _ _ k3
            simp at ea; subst ea
            obtain ⟨ga, ea, d4⟩ := HIC.out _ _ k4
            simp at ea; subst ea
            obtain ⟨g1, hg1, hg0⟩ := HIA.out rfl
            simp at hg1; subst hg1
            have x0 := (HBL.out.cell (p := ⟨g0, q * 5, none⟩) hg0).trans d0
            have x1 := (HBL.out.cell (p := ⟨g0, q * 5 + 1, none⟩) hg0).trans d1
            have x2 := (HBL.out.cell (p := ⟨g0, q * 5 + 2, none⟩) hg0).trans d2
            have x3 := (HBL.out.cell (p := ⟨g0, q * 5 + 3, none⟩) hg0).trans d3
            have x4 := (HBL.out.cell (p := ⟨g0, q * 5 + 4, none⟩) hg0).trans d4
            clear d0 d1 d2 d3 d4 k0 k1 k2 k3 k4
            by_cases hck : L[q].2 = k
            · rw [hck] at x4
              have hnq := neq_same ⟨blk k, 0, none⟩ wr
              have HFL := hid (filtF_hit hql hck)
              have HCK := hid hck
              clear hck
              go_wp2_with fail
              go_roundw
              case rel => exact ⟨q + 1, by omega, by go_num, g, cap, by rw [HFL.out], hgl, by rw [HFL.out]; exact HOW.out, HBL.out⟩
              case measure => simp [intOf]; omega
            · have hLn : L[q].2 < n + 1 := HFC.out.flt (par P (k - 1)) (by unfold par; omega) _ (by rw [HL.out]; exact List.getElem_mem hql)
              have hbb : blk L[q].2 ≠ blk k := fun e => hck (HFC.out.blk_inj hLn (by omega) e)
              obtain ⟨_, _, m1, _⟩ := HFC.out.node L[q].2 hLn
              obtain ⟨_, _, m2, _⟩ := HFC.out.node k (by omega)
              have hnq := neq_other wr hbb ((HBL.out.block _ (lt_of_blk m1)).trans m1) ((HBL.out.block _ hlk).trans m2)
              have hfl := filtF_len k L q
              clear m1 m2
              go_wp2_with (at_builtin; refine wpList_append_lies _ rfl _ _ _ rfl wC.heap.size 39 i0 _ 5 48 Try.underlying35 hi hz0 hz1 hz2 rfl (by decide) _ (keepF k L q).length (fcells ((keepF k L q).map fun p => (p.1, blk p.2))) rfl (HOW.out.alloc _) ⟨wr.heap.size, 0, none⟩ 1 1 (fcells [(L[q].1, blk L[q].2)]) rfl rfl (World.news_of_block (cs := #[.string L[q].1, .int .i64 0, .int .i64 1, .int .i64 1, .pointer (some ⟨blk L[q].2, 0, none⟩)]) (t := 39) (fr := (0, 0)) (heap_alloc_new wr _)) (by simp [fcells, Value.oneCell']) (by omega) (by unfold maxLen; omega) (by omega) (by simp; omega) (wr.heap.size + 1) (by simp) ?_; intro g' cap' w3 hown3 hgrow3 hat3 hlt3; have HH := hid (KF.grow hql hck hgl HBL.out hgrow3 hown3 hat3); clear hown3 hgrow3 hat3 hlt3)
              go_roundw
              case rel => exact ⟨q + 1, by omega, by go_num, HH.out⟩
              case measure => simp [intOf]; omega
          · have hqe : q = L.length := by omega
            subst hqe
            have hfl := filtF_len k L L.length
            have zf10 := (HBL.out.frozen (p := ⟨blk (P (k - 1)).toNat, 10, none⟩) yl).trans (by simpa using (cell_node Q1.out).2.2.2.1 10)
            have z0 := ((HAC.out.trans (HBL.out.mono (by omega))).cell (p := ⟨w.heap.size, 0, none⟩) hszA).trans (HRA.out.cell (i := 0) (by omega))
            have hne0 : blk (P (k - 1)).toNat ≠ w.heap.size := by omega
            have hR := HFC.out.putF (q := par P (k - 1)) (by unfold par; omega) HBL.out HOW.out
            have eL : upd fs (par P (k - 1)) (keepF k L L.length) = upd fs (par P (k - 1)) ((fs (par P (k - 1))).filter fun p => decide (p.2 ≠ k)) := by rw [filtF_all, HL.out]
            rw [eL] at hR
            have HC : Hid (Calls Try.prog 8 #[.pointer (some ⟨blk 0, 0, none⟩)] (wr.setCell ⟨blk (P (k - 1)).toNat, 10, none⟩ (.slice (some ⟨g, 0, none⟩) (keepF k L L.length).length cap)) fun e w' => e = .returned (.int .i64 (Pl.wgt (par P) n (wtC P k) 0 : Nat)) ∧
                Below (wr.setCell ⟨blk (P (k - 1)).toNat, 10, none⟩ (.slice (some ⟨g, 0, none⟩) (keepF k L L.length).length cap)).heap.size (wr.setCell ⟨blk (P (k - 1)).toNat, 10, none⟩ (.slice (some ⟨g, 0, none⟩) (keepF k L L.length).length cap)) w') :=
              hid (cut_field_call HP.out HKA.out h2 h3 h4 HO.out hR)
            have hfin : Pl.wgt (par P) n (wtC P k) 0 + S = n + 1 := by rw [← HSS.out]; exact wgtC_root HP.out k
            generalize hT : Pl.wgt (par P) n (wtC P k) 0 = T at *
            have hT1 : (T : Int) = (n : Int) + 1 - (S : Int) := by omega
            have HWR : Hid (Below w.heap.size w (wr.setCell ⟨blk (P (k - 1)).toNat, 10, none⟩ (.slice (some ⟨g, 0, none⟩) (keepF k L L.length).length cap))) :=
              hid (((HBA.out.trans (HAC.out.mono (by omega))).trans (HBL.out.mono (by omega))).setCell (show w.heap.size ≤ blk (P (k - 1)).toNat by omega) _)
            clear hR eL hfin hT
            go_wp2_with fail
            refine HC.out.mono ?_
            rintro e wE ⟨rfl, hBE⟩
            have HBE := hid hBE
            clear hBE
            go_wp2_with fail
            go_ret
            exact ⟨rfl, HWR.out.trans (HBE.out.mono HWR.out.size)⟩

end Go.Proofs.Qxb6627519a
