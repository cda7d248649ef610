import Derived.Test.Qxb6627519aBw
import Derived.Deep.RegionLaw
namespace Go.Proofs.Qxb6627519a
open Go.RowKit

theorem itoa_int (x : Int) (w : World) (h0 : 0 < x) (h1 : x ≤ 1048577) :
    Calls Try.prog 11 #[.int .i64 x] w fun e w' => ∃ s : ByteArray, e = .returned (.string s) ∧ Below w.heap.size w w' := by
  obtain ⟨n, rfl⟩ := Int.eq_ofNat_of_zero_le (show 0 ≤ x by omega)
  refine (itoa_any n w (by omega) (by omega)).mono ?_
  rintro e w' ⟨xs, rfl, _, hb⟩
  exact ⟨_, rfl, hb⟩

set_option maxHeartbeats 2000000 in
theorem build_any (ad : Option Addr) (n cap : Nat) (P : Nat → Int) (O : Nat → Bool) (r : Bool) (w : World) (hn : n ≤ 65536) (hz : Zs w ad n P O) (hP : ∀ i, i < n → 0 ≤ P i ∧ P i ≤ i) :
    Calls Try.prog 7 #[.slice ad n cap, .bool r] w fun e w' => ∃ blk its fs tag, e = .returned (.slice (some ⟨w.heap.size, 0, none⟩) (n + 1) (n + 1)) ∧ w'.rowIs w.heap.size 27 (n + 1) (fun j => .pointer (some ⟨blk j, 0, none⟩)) ∧
      Fam w' (w.heap.size + 1) (n + 1) blk (obs r O) its fs tag ∧ Kids P (obs r O) n its fs ∧ Below w.heap.size w w' := by
  have HZ : Hid (Zs w ad n P O) := hz
  have HPP : Hid (∀ i, i < n → 0 ≤ P i ∧ P i ≤ i) := hP
  clear hz hP
  have hmk := run_make_row' (P := Try.prog) 25 27 (.pointer none) 8 Try.underlying25 info27 rfl .i64 .i64 (n + 1) (by omega) (by omega)
  have ec : ((n + 1 : Nat) : Int) = (n : Int) + 1 := by omega
  rw [ec] at hmk
  clear ec
  go_enter Try.func7, Try.ntmps7
  go_wp2_with fail
  refine (new_op _ _).mono ?_
  rintro e w1 ⟨rfl, hw1⟩
  have hr1 : w1.rowIs w.heap.size 27 (n + 1) (fun _ => .pointer none) := by rw [hw1.out]; exact (World.rowIs_made w (.pointer none) (n + 1) 27).alloc _
  have hc1 := hr1.cell (i := 0) (by omega)
  have hf1 := hr1.frozen 0
  clear hmk
  go_wp2_with fail
  go_loopw [6] (fun i wr => ∃ k : Nat, k ≤ n ∧ i = .int .i64 k ∧ BRel w wr n P (obs r O) k) (fun i _ => n - (intOf i).toNat)
  case atStart => exact ⟨0, Nat.zero_le _, rfl, build_start w w1 n P r O hw1.out⟩
  case round =>
    clear hr1 hc1 hf1 hw1
    obtain ⟨k, hk, rfl, blk, its, fs, tag, hrow, hF, hK, hB⟩ := hrel
    have HF : Hid (Fam wr (w.heap.size + 1) (k + 1) blk (obs r O) its fs tag) := hF
    have HK : Hid (Kids P (obs r O) k its fs) := hK
    have HR : Hid (wr.rowIs w.heap.size 27 (n + 1) (rowV blk k)) := hrow
    by_cases hlt : k < n
    · obtain ⟨b, off, rfl, c0, c1⟩ := HZ.out k hlt
      have hbw : b < w.heap.size := World.block_lt_of_cell? w _ c0
      have d0 := (hB.cell (p := ⟨b, off + k * 2, none⟩) hbw).trans c0
      have d1 := (hB.cell (p := ⟨b, off + k * 2 + 1, none⟩) hbw).trans c1
      obtain ⟨hp0, hp1⟩ := HPP.out k hlt
      obtain ⟨iv, fv, q1, q2, q3, q4, q5, q6, q7⟩ := hF.node (par P k) (by unfold par; omega)
      have ni : iv.ownBlock ≠ some (blk (par P k)) := fun e => by have := q6 _ e; omega
      have nf : fv.ownBlock ≠ some (blk (par P k)) := fun e => by have := q7 _ e; omega
      have hsz : w.heap.size < wr.heap.size := hrow.lt
      clear c0 c1 q5 q6 q7 hF hK hrow
      go_wp2_with fail
      refine (new_op _ _).mono ?_
      rintro e w1 ⟨rfl, hw1⟩
      have hs1 : w1.heap.size = wr.heap.size + 1 := by rw [hw1.out]; simp
      have r1 : w1.rowIs w.heap.size 27 (n + 1) (rowV blk k) := by rw [hw1.out]; exact HR.out.alloc _
      have e0 : w1.cell? ⟨b, off + k * 2, none⟩ = some (.int .i64 (P k)) := by rw [hw1.out, World.cell?_alloc_past _ _ _ (by omega)]; exact d0
      have x1 := r1.cell (i := k + 1) (by omega)
      have x2 := r1.frozen (k + 1)
      have x3 : w1.cell? ⟨w.heap.size, (P k).toNat, none⟩ = some (.pointer (some ⟨blk (par P k), 0, none⟩)) := by
        rw [r1.cell (i := (P k).toNat) (by omega)]
        unfold rowV
        rw [if_pos (by omega)]; rfl
      have n1 : w1.heap[blk (par P k)]? = some (.cells (ncells (kind (obs r O (par P k))) iv fv) 37 (0, 0)) := by
        rw [hw1.out, Below.heap_alloc _ _ _ (lt_of_blk q1)]; exact q1
      obtain ⟨y0, y9, y10, yf, yl⟩ := cell_node n1
      have HN : Hid (wr.heap[blk (par P k)]? = some (.cells (ncells (kind (obs r O (par P k))) iv fv) 37 (0, 0))) := q1
      have yf9 := yf 9
      have yf10 := yf 10
      have hne : blk (par P k) ≠ w.heap.size := by omega
      have Q2 : Hid (wr.ownsRow (w.heap.size + 1) 27 1 iv (its (par P k)).length (ptrs ((its (par P k)).map blk))) := q2
      have Q3 : Hid (wr.ownsRow (w.heap.size + 1) 39 5 fv (fs (par P k)).length (fcells ((fs (par P k)).map fun p => (p.1, blk p.2)))) := q3
      have HB : Hid (Below w.heap.size w wr) := hB
      clear d0 d1 q1 q2 q3 n1 yf r1 hB
      cases hob : obs r O (par P k)
      · have hk5 : kind (obs r O (par P k)) = 4 := by rw [hob]; rfl
        rw [hk5] at y0
        have HO : Hid (obs r O (par P k) = false) := hob
        clear hob hk5
        have hlen : (its (par P k)).length ≤ 65536 := by
          rw [(HK.out (par P k) (by unfold par; omega)).1, HO.out]
          have := Pl.length_ch (par P) (par P k) k
          simp; omega
        have hownA : ((w1.setCell { block := w.heap.size, off := k + 1 } (Value.pointer (some { block := wr.heap.size, off := 0 }))).alloc (Obj.cells #[Value.pointer (some { block := wr.heap.size, off := 0 })] 27)).ownsRow (w.heap.size + 1) 27 1 iv (its (par P k)).length (ptrs ((its (par P k)).map blk)) :=
          owns_same Q2.out (fun q _ h1 h2 => by
            rw [Below.heap_alloc _ _ _ (by simp [World.setCell]; omega), Below.heap_setCell _ _ _ _ (by simp; omega), hw1.out, Below.heap_alloc _ _ _ h2])
        have hnews := World.news_of_block (w := (w1.setCell { block := w.heap.size, off := k + 1 } (Value.pointer (some { block := wr.heap.size, off := 0 }))).alloc (Obj.cells #[Value.pointer (some { block := wr.heap.size, off := 0 })] 27)) (B := wr.heap.size + 1) (cs := #[Value.pointer (some { block := wr.heap.size, off := 0 })]) (t := 27) (fr := (0, 0))
          (alloc_at _ (by rw [size_set]; exact hs1))
        have n3 : ((w1.setCell { block := w.heap.size, off := k + 1 } (Value.pointer (some { block := wr.heap.size, off := 0 }))).alloc (Obj.cells #[Value.pointer (some { block := wr.heap.size, off := 0 })] 27)).heap[blk (par P k)]? = some (.cells (ncells (kind (obs r O (par P k))) iv fv) 37 (0, 0)) := by
          rw [Below.heap_alloc _ _ _ (by rw [size_set]; exact yl), Below.heap_setCell _ _ _ _ hne, hw1.out, Below.heap_alloc _ _ _ (lt_of_blk HN.out)]; exact HN.out
        have NI := hid (Ne.symm ni)
        have N3 := hid n3
        clear n3 ni nf
        have HOA := hid hownA
        have HNW := hid hnews
        clear hownA hnews
        obtain ⟨i0, hi, hz0, hz1, hz2⟩ := info_parts info27
        go_wp2_with (at_builtin; refine wpList_append_lies _ rfl _ _ _ rfl (w.heap.size + 1) 27 i0 (.pointer none) 1 8 Try.underlying25 hi hz0 hz1 hz2 rfl (by decide) iv (its (par P k)).length (ptrs ((its (par P k)).map blk)) rfl HOA.out ⟨wr.heap.size + 1, 0, none⟩ 1 1 [Value.pointer (some { block := wr.heap.size, off := 0 })] rfl rfl HNW.out (by simp [Value.oneCell']) (by omega) (by unfold maxLen; omega) (by omega) (by simp [World.setCell]; omega) (wr.heap.size + 2) (by simp [World.setCell]; omega) ?_; intro g cap w3 hown hgrow hat hlt3; have n4 := hid ((hgrow.block _ (lt_of_blk N3.out) NI.out).trans N3.out); have z9 := (cell_node n4.out).2.1; have zf9 := (cell_node n4.out).2.2.2.1 9; have HH := hid (And.intro hown (And.intro hgrow hat)); clear hown hgrow hat)
        go_roundw
        case rel => exact ⟨k + 1, by omega, by go_num, build_item w wr w1 w3 n k P (obs r O) HPP.out hlt blk its fs tag HR.out HF.out HK.out HB.out hsz hw1.out iv fv HN.out HO.out g cap HH.out.2.1 HH.out.1 HH.out.2.2⟩
        case measure => simp [intOf]; omega
      · have hk5 : kind (obs r O (par P k)) = 5 := by rw [hob]; rfl
        rw [hk5] at y0
        have HO : Hid (obs r O (par P k) = true) := hob
        clear hob hk5
        have hlen : (fs (par P k)).length ≤ 65536 := by
          have h1 := (HK.out (par P k) (by unfold par; omega)).2
          rw [HO.out] at h1
          have h2 := congrArg List.length h1
          have := Pl.length_ch (par P) (par P k) k
          simp at h2; omega
        have n2 : (w1.setCell { block := w.heap.size, off := k + 1 } (Value.pointer (some { block := wr.heap.size, off := 0 }))).heap[blk (par P k)]? = some (.cells (ncells (kind (obs r O (par P k))) iv fv) 37 (0, 0)) := by
          rw [Below.heap_setCell _ _ _ _ hne, hw1.out, Below.heap_alloc _ _ _ (lt_of_blk HN.out)]; exact HN.out
        have N2 := hid n2
        have HOA := hid (show (w1.setCell { block := w.heap.size, off := k + 1 } (Value.pointer (some { block := wr.heap.size, off := 0 }))).ownsRow (w.heap.size + 1) 39 5 fv (fs (par P k)).length (fcells ((fs (par P k)).map fun p => (p.1, blk p.2))) from
          owns_same Q3.out (fun q _ h1 h2 => by
            rw [Below.heap_setCell _ _ _ _ (by simp; omega), hw1.out, Below.heap_alloc _ _ _ h2]))
        have HS2 := hid (show (w1.setCell { block := w.heap.size, off := k + 1 } (Value.pointer (some { block := wr.heap.size, off := 0 }))).heap.size = wr.heap.size + 1 by rw [size_set]; exact hs1)
        have NF := hid (Ne.symm nf)
        clear ni nf n2
        obtain ⟨i0, hi, hz0, hz1, hz2⟩ := info_parts info39
        have hwr := wrap_small ((k : Int) + 1) (by omega) (by omega)
        go_wp2_with fail
        go_region_law (first | (refine step_append_lies _ (by rfl) _ _ _ (by rfl) (w.heap.size + 1) 39 i0 _ 5 48 Try.underlying35 hi hz0 hz1 hz2 rfl (by omega) fv (fs (par P k)).length (fcells ((fs (par P k)).map fun p => (p.1, blk p.2))) (by rfl) (HX.out.alloc _) ⟨w2.heap.size, 0, none⟩ 1 1 (fcells [(s, wr.heap.size)]) (by rfl) (by rfl) (World.news_of_block (cs := #[.string s, .int .i64 0, .int .i64 1, .int .i64 1, .pointer (some ⟨wr.heap.size, 0, none⟩)]) (t := 39) (fr := (0, 0)) (heap_alloc_new w2 _)) (by simp [fcells, Value.oneCell']) (by omega) (by unfold maxLen; omega) (by omega) (by simp; omega) (w2.heap.size + 1) (by simp) ?_; intro g cap w3 hown hgrow hat hlt3; have n4 := hid ((hgrow.block _ (by simp; omega) NF.out).trans ((Below.heap_alloc _ _ _ yl2).trans N3.out)); have z10 := (cell_node n4.out).2.2.1; have zf10 := (cell_node n4.out).2.2.2.1 10; have HH := hid (And.intro hown (And.intro hgrow hat)); clear hown hgrow hat) | (go_simp; go_at_call 11; refine (itoa_int _ _ (by omega) (by omega)).mono ?_; rintro e w2 ⟨s, rfl, hb2⟩; have HB2 := hid hb2; clear hb2; have HX := hid (owns_below (HOA.out.drew) HB2.out (Nat.le_refl _)); have N3 := hid ((HB2.out.block _ (lt_of_blk N2.out)).trans N2.out); have c10 := (cell_node N3.out).2.2.1; have yl2 := lt_of_blk N3.out; have sz2 : wr.heap.size + 1 ≤ w2.heap.size := Nat.le_trans (Nat.le_of_eq HS2.out.symm) HB2.out.size))
        all_goals
          have hrr := build_field w wr w1 (w2.alloc (.cells #[.string s, .int .i64 0, .int .i64 1, .int .i64 1, .pointer (some ⟨wr.heap.size, 0, none⟩)] 39)) w3 n k P (obs r O) HPP.out hlt blk its fs tag HR.out HF.out HK.out HB.out hsz hw1.out iv fv HN.out HO.out
            (((Below.refl _ _).drew.trans (Below.mono HB2.out (Nat.le_of_eq HS2.out.symm))).alloc sz2 _) s g cap HH.out.2.1 HH.out.1 (by rcases HH.out.2.2 with h | h; exact .inl h; exact .inr (by omega))
          have HRR := hid hrr
          clear hrr
          go_wp2_with fail
          go_roundw
          case rel => exact ⟨k + 1, by omega, by go_num, HRR.out⟩
          case measure => simp [intOf]; omega
    · have hkn : k = n := by omega
      subst hkn
      go_wp2_with fail
      go_ret
      refine ⟨blk, its, fs, tag, rfl, ?_, HF.out, HK.out, hB⟩
      refine HR.out.congr fun j hj => ?_
      unfold rowV
      rw [if_pos (by omega)]

end Go.Proofs.Qxb6627519a
