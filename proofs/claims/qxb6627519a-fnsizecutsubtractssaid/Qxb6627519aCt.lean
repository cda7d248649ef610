import Derived.Test.Qxb6627519aGr
namespace Go.Proofs.Qxb6627519a
open Go.RowKit

/-! ### A node's Items or Fields put anew, out of a row that was made since -/
section
variable {w w1 : World} {base N : Nat} {blk : Nat → Nat} {ob : Nat → Bool} {its : Nat → List Nat} {fs : Nat → List (ByteArray × Nat)} {tag : Nat → Nat}

theorem Fam.blk_inj (h : Fam w base N blk ob its fs tag) {i j : Nat} (hi : i < N) (hj : j < N) (e : blk i = blk j) : i = j := by
  obtain ⟨_, _, _, _, _, _, a5, _⟩ := h.node i hi
  obtain ⟨_, _, _, _, _, _, b5, _⟩ := h.node j hj
  rw [e, b5] at a5; omega

theorem Fam.putF (h : Fam w base N blk ob its fs tag) {q : Nat} (hq : q < N) (hb : Below w.heap.size w w1) {v : Value} {l : List (ByteArray × Nat)}
    (hv : w1.ownsRow w.heap.size 39 5 v l.length (fcells (l.map fun p => (p.1, blk p.2)))) :
    Rd (w1.setCell ⟨blk q, 10, none⟩ v) (fun j => j < N) blk its (upd fs q l) := by
  obtain ⟨ivq, fvq, p1, p2, p3, p4, p5, p6, p7⟩ := h.node q hq
  have hlq := lt_of_blk p1
  have hother : ∀ k, k < w.heap.size → k ≠ blk q → (w1.setCell ⟨blk q, 10, none⟩ v).heap[k]? = w.heap[k]? := fun k h1 h2 => by
    rw [Below.heap_setCell _ _ _ _ h2, hb.block k h1]
  intro j hj
  obtain ⟨iv, fv, q1, q2, q3, q4, q5, q6, q7⟩ := h.node j hj
  by_cases e : j = q
  · subst e
    refine ⟨kind (ob j), ivq, v, ?_, ?_, ?_⟩
    · have hw1 : w1.heap[blk j]? = some (.cells (ncells (kind (ob j)) ivq fvq) 37 (0, 0)) := by rw [hb.block _ hlq]; exact p1
      rw [heap_set_self hw1]
      rfl
    · rw [List.length_map]
      refine owns_zero (owns_same p2 (fun k hk _ hl => hother k hl (fun e => ?_)))
      have := p6 k hk; rw [e, p5] at this; omega
    · rw [upd_same, List.length_map]
      refine owns_zero (owns_same hv (fun k hk hbk hl => Below.heap_setCell _ _ _ _ ?_))
      show k ≠ blk j; omega
  · have hne : blk j ≠ blk q := fun e' => e (h.blk_inj hj hq e')
    refine ⟨kind (ob j), iv, fv, ?_, ?_, ?_⟩
    · rw [hother _ (lt_of_blk q1) hne]; exact q1
    · rw [List.length_map]
      refine owns_zero (owns_same q2 (fun k hk _ hl => hother k hl (fun e' => ?_)))
      have := q6 k hk; rw [e', p5] at this; omega
    · rw [upd_other _ _ _ _ e, List.length_map]
      refine owns_zero (owns_same q3 (fun k hk _ hl => hother k hl (fun e' => ?_)))
      have := q7 k hk; rw [e', p5] at this; omega

theorem Fam.putI (h : Fam w base N blk ob its fs tag) {q : Nat} (hq : q < N) (hb : Below w.heap.size w w1) {v : Value} {l : List Nat}
    (hv : w1.ownsRow w.heap.size 27 1 v l.length (ptrs (l.map blk))) :
    Rd (w1.setCell ⟨blk q, 9, none⟩ v) (fun j => j < N) blk (upd its q l) fs := by
  obtain ⟨ivq, fvq, p1, p2, p3, p4, p5, p6, p7⟩ := h.node q hq
  have hlq := lt_of_blk p1
  have hother : ∀ k, k < w.heap.size → k ≠ blk q → (w1.setCell ⟨blk q, 9, none⟩ v).heap[k]? = w.heap[k]? := fun k h1 h2 => by
    rw [Below.heap_setCell _ _ _ _ h2, hb.block k h1]
  intro j hj
  obtain ⟨iv, fv, q1, q2, q3, q4, q5, q6, q7⟩ := h.node j hj
  by_cases e : j = q
  · subst e
    refine ⟨kind (ob j), v, fvq, ?_, ?_, ?_⟩
    · have hw1 : w1.heap[blk j]? = some (.cells (ncells (kind (ob j)) ivq fvq) 37 (0, 0)) := by rw [hb.block _ hlq]; exact p1
      rw [heap_set_self hw1]
      rfl
    · rw [upd_same, List.length_map]
      refine owns_zero (owns_same hv (fun k hk hbk hl => Below.heap_setCell _ _ _ _ ?_))
      show k ≠ blk j; omega
    · rw [List.length_map]
      refine owns_zero (owns_same p3 (fun k hk _ hl => hother k hl (fun e => ?_)))
      have := p7 k hk; rw [e, p5] at this; omega
  · have hne : blk j ≠ blk q := fun e' => e (h.blk_inj hj hq e')
    refine ⟨kind (ob j), iv, fv, ?_, ?_, ?_⟩
    · rw [hother _ (lt_of_blk q1) hne]; exact q1
    · rw [upd_other _ _ _ _ e, List.length_map]
      refine owns_zero (owns_same q2 (fun k hk _ hl => hother k hl (fun e' => ?_)))
      have := q6 k hk; rw [e', p5] at this; omega
    · rw [List.length_map]
      refine owns_zero (owns_same q3 (fun k hk _ hl => hother k hl (fun e' => ?_)))
      have := q7 k hk; rw [e', p5] at this; omega
end

/-! ### What is kept so far -/
def keepI (k : Nat) (l : List Nat) (i : Nat) : List Nat := (l.take i).filter fun c => decide (c ≠ k)
def keepF (k : Nat) (l : List (ByteArray × Nat)) (i : Nat) : List (ByteArray × Nat) := (l.take i).filter fun p => decide (p.2 ≠ k)

theorem filt_hit {k : Nat} {l : List Nat} {i : Nat} (h : i < l.length) (hk : l[i] = k) : keepI k l (i + 1) = keepI k l i := by
  unfold keepI
  rw [List.take_succ_eq_append_getElem h, List.filter_append, hk]; simp
theorem filt_miss {k : Nat} {l : List Nat} {i : Nat} (h : i < l.length) (hk : l[i] ≠ k) : keepI k l (i + 1) = keepI k l i ++ [l[i]] := by
  unfold keepI
  rw [List.take_succ_eq_append_getElem h, List.filter_append]; simp [hk]
theorem filt_all (k : Nat) (l : List Nat) : keepI k l l.length = l.filter fun c => decide (c ≠ k) := by unfold keepI; rw [List.take_length]
theorem filt_len (k : Nat) (l : List Nat) (i : Nat) : (keepI k l i).length ≤ l.length := by
  unfold keepI
  have h1 := List.length_filter_le (fun c => decide (c ≠ k)) (l.take i)
  have h2 : (l.take i).length ≤ l.length := by rw [List.length_take]; omega
  omega

theorem filtF_hit {k : Nat} {l : List (ByteArray × Nat)} {i : Nat} (h : i < l.length) (hk : l[i].2 = k) : keepF k l (i + 1) = keepF k l i := by
  unfold keepF
  rw [List.take_succ_eq_append_getElem h, List.filter_append]; simp [hk]
theorem filtF_miss {k : Nat} {l : List (ByteArray × Nat)} {i : Nat} (h : i < l.length) (hk : l[i].2 ≠ k) : keepF k l (i + 1) = keepF k l i ++ [l[i]] := by
  unfold keepF
  rw [List.take_succ_eq_append_getElem h, List.filter_append]; simp [hk]
theorem filtF_all (k : Nat) (l : List (ByteArray × Nat)) : keepF k l l.length = l.filter fun p => decide (p.2 ≠ k) := by unfold keepF; rw [List.take_length]
theorem filtF_len (k : Nat) (l : List (ByteArray × Nat)) (i : Nat) : (keepF k l i).length ≤ l.length := by
  unfold keepF
  have h1 := List.length_filter_le (fun p : ByteArray × Nat => decide (p.2 ≠ k)) (l.take i)
  have h2 : (l.take i).length ≤ l.length := by rw [List.length_take]; omega
  omega

/-- The loop's relation: the row 'v' of the call's own holds what is kept of the first i. -/
def KI (wC wr : World) (blk : Nat → Nat) (k : Nat) (l : List Nat) (i : Nat) (v : Value) : Prop :=
  ∃ g cap, v = .slice (some ⟨g, 0, none⟩) (keepI k l i).length cap ∧ wC.heap.size ≤ g ∧ wr.ownsRow wC.heap.size 27 1 v (keepI k l i).length (ptrs ((keepI k l i).map blk)) ∧ Below wC.heap.size wC wr
def KF (wC wr : World) (blk : Nat → Nat) (k : Nat) (l : List (ByteArray × Nat)) (i : Nat) (v : Value) : Prop :=
  ∃ g cap, v = .slice (some ⟨g, 0, none⟩) (keepF k l i).length cap ∧ wC.heap.size ≤ g ∧ wr.ownsRow wC.heap.size 39 5 v (keepF k l i).length (fcells ((keepF k l i).map fun p => (p.1, blk p.2))) ∧ Below wC.heap.size wC wr

theorem KI.start {wC w1 : World} {blk : Nat → Nat} {k : Nat} {l : List Nat} {c : Nat} (h : w1.ownsRow wC.heap.size 27 1 (.slice (some ⟨wC.heap.size, 0, none⟩) 0 c) 0 []) (hg : wC.grownBy w1 none) :
    KI wC w1 blk k l 0 (.slice (some ⟨wC.heap.size, 0, none⟩) 0 c) :=
  ⟨wC.heap.size, c, rfl, Nat.le_refl _, h, (Below.refl _ _).grown hg (Nat.le_refl _) (fun k h => by cases h)⟩
theorem KF.start {wC w1 : World} {blk : Nat → Nat} {k : Nat} {l : List (ByteArray × Nat)} {c : Nat} (h : w1.ownsRow wC.heap.size 39 5 (.slice (some ⟨wC.heap.size, 0, none⟩) 0 c) 0 []) (hg : wC.grownBy w1 none) :
    KF wC w1 blk k l 0 (.slice (some ⟨wC.heap.size, 0, none⟩) 0 c) :=
  ⟨wC.heap.size, c, rfl, Nat.le_refl _, h, (Below.refl _ _).grown hg (Nat.le_refl _) (fun k h => by cases h)⟩

theorem KI.grow {wC wr w3 : World} {blk : Nat → Nat} {k : Nat} {l : List Nat} {i g cap g' cap' : Nat} {o : Obj} (h : i < l.length) (hk : l[i] ≠ k) (hg : wC.heap.size ≤ g) (hbel : Below wC.heap.size wC wr)
    (hgr : (wr.alloc o).grownBy w3 (Value.slice (some ⟨g, 0, none⟩) (keepI k l i).length cap).ownBlock)
    (hown : w3.ownsRow wC.heap.size 27 1 (.slice (some ⟨g', 0, none⟩) ((keepI k l i).length + 1) cap') ((keepI k l i).length + 1) (ptrs ((keepI k l i).map blk) ++ [.pointer (some ⟨blk l[i], 0, none⟩)]))
    (hat : (Value.slice (some ⟨g, 0, none⟩) (keepI k l i).length cap).ownBlock = some g' ∨ g' = wr.heap.size + 1) :
    KI wC w3 blk k l (i + 1) (.slice (some ⟨g', 0, none⟩) ((keepI k l i).length + 1) cap') := by
  refine ⟨g', cap', ?_, ?_, ?_, ?_⟩
  · rw [filt_miss h hk, List.length_append]; rfl
  · rcases hat with h | h
    · simp [Value.ownBlock] at h; omega
    · have := hbel.size; omega
  · rw [filt_miss h hk, List.length_append, List.map_append]
    have : ptrs ((keepI k l i).map blk ++ [l[i]].map blk) = ptrs ((keepI k l i).map blk) ++ [.pointer (some ⟨blk l[i], 0, none⟩)] := by simp [ptrs]
    rw [this]; exact hown
  · exact (hbel.alloc hbel.size o).grown hgr (by have := hbel.size; simp; omega) (fun q hq => by simp [Value.ownBlock] at hq; omega)

theorem KF.grow {wC wr w3 : World} {blk : Nat → Nat} {k : Nat} {l : List (ByteArray × Nat)} {i g cap g' cap' : Nat} {o : Obj} (h : i < l.length) (hk : l[i].2 ≠ k) (hg : wC.heap.size ≤ g) (hbel : Below wC.heap.size wC wr)
    (hgr : (wr.alloc o).grownBy w3 (Value.slice (some ⟨g, 0, none⟩) (keepF k l i).length cap).ownBlock)
    (hown : w3.ownsRow wC.heap.size 39 5 (.slice (some ⟨g', 0, none⟩) ((keepF k l i).length + 1) cap') ((keepF k l i).length + 1) (fcells ((keepF k l i).map fun p => (p.1, blk p.2)) ++ fcells [(l[i].1, blk l[i].2)]))
    (hat : (Value.slice (some ⟨g, 0, none⟩) (keepF k l i).length cap).ownBlock = some g' ∨ g' = wr.heap.size + 1) :
    KF wC w3 blk k l (i + 1) (.slice (some ⟨g', 0, none⟩) ((keepF k l i).length + 1) cap') := by
  refine ⟨g', cap', ?_, ?_, ?_, ?_⟩
  · rw [filtF_miss h hk, List.length_append]; rfl
  · rcases hat with h | h
    · simp [Value.ownBlock] at h; omega
    · have := hbel.size; omega
  · rw [filtF_miss h hk, List.length_append, List.map_append, fcells_append]
    exact hown
  · exact (hbel.alloc hbel.size o).grown hgr (by have := hbel.size; simp; omega) (fun q hq => by simp [Value.ownBlock] at hq; omega)

/-! ### The sizes behind the cut -/
def wtC (P : Nat → Int) (k : Nat) : Nat → Nat := fun x => Pl.b2n (!Pl.hit (par P) k x)

theorem lsum_filter (f : Nat → Nat) (k : Nat) (h : f k = 0) (l : List Nat) : Pl.lsum f (l.filter fun c => decide (c ≠ k)) = Pl.lsum f l := by
  induction l with
  | nil => rfl
  | cons c l ih =>
    by_cases e : c = k
    · subst e; rw [List.filter_cons_of_neg (by simp)]; simp only [Pl.lsum, h, ih]; omega
    · rw [List.filter_cons_of_pos (by simpa using e)]; simp only [Pl.lsum, ih]

theorem wgtC_self (P : Nat → Int) (n k : Nat) : Pl.wgt (par P) n (wtC P k) k = 0 := by
  unfold Pl.wgt
  refine Pl.sumTo_none _ fun x _ => ?_
  unfold wtC Pl.b2n
  cases Pl.hit (par P) k x <;> simp

theorem want_eq (P : Nat → Int) (n k : Nat) : Pl.sumTo (fun x => Pl.b2n (Pl.hit (par P) k x)) (n + 1) = Pl.wgt (par P) n (fun _ => 1) k := by
  unfold Pl.wgt
  exact Pl.sumTo_congr _ fun x _ => (Nat.one_mul _).symm

theorem wgtC_root {P : Nat → Int} {n : Nat} (hP : ∀ i, i < n → 0 ≤ P i ∧ P i ≤ i) (k : Nat) : Pl.wgt (par P) n (wtC P k) 0 + Pl.wgt (par P) n (fun _ => 1) k = n + 1 := by
  rw [Pl.wgt_root (par_le hP), ← want_eq, ← Pl.sumTo_add]
  rw [Pl.sumTo_congr (g := fun _ => 1), Pl.sumTo_one]
  intro i _
  unfold wtC Pl.b2n
  cases Pl.hit (par P) k i <;> simp

/-- A child, other than k, of a node that is not under k is not under k. -/
theorem hit_child {P : Nat → Int} {n k j c : Nat} (hP : ∀ i, i < n → 0 ≤ P i ∧ P i ≤ i) (hc : c ∈ Pl.ch (par P) j n) (hck : c ≠ k) (hj : Pl.hit (par P) k j = false) : Pl.hit (par P) k c = false := by
  obtain ⟨i, h1, rfl, h3⟩ := Pl.mem_ch hc
  by_cases hlt : k < i + 1
  · rw [Pl.hit_up (par_le hP) hlt (by omega), Nat.add_sub_cancel, h3]; exact hj
  · rw [Pl.hit_low hlt]; exact beq_eq_false_iff_ne.2 hck

section
variable {P : Nat → Int} {ob : Nat → Bool} {n k : Nat} {its : Nat → List Nat} {fs : Nat → List (ByteArray × Nat)}

def CM (P : Nat → Int) (n k : Nat) : Nat → Prop := fun j => j < n + 1 ∧ Pl.hit (par P) k j = false

theorem wtC_one {j : Nat} (h : Pl.hit (par P) k j = false) : wtC P k j = 1 := by unfold wtC; rw [h]; rfl

theorem cut_field_call {w : World} {blk : Nat → Nat} (hP : ∀ i, i < n → 0 ≤ P i ∧ P i ≤ i) (hK : Kids P ob n its fs) (hn : n ≤ 65536) (h1 : 1 ≤ k) (hkn : k ≤ n)
    (hob : ob (par P (k - 1)) = true) (hR : Rd w (fun j => j < n + 1) blk its (upd fs (par P (k - 1)) ((fs (par P (k - 1))).filter fun p => decide (p.2 ≠ k)))) :
    Calls Try.prog 8 #[.pointer (some ⟨blk 0, 0, none⟩)] w fun e w' => e = .returned (.int .i64 (Pl.wgt (par P) n (wtC P k) 0 : Nat)) ∧ Below w.heap.size w w' := by
  have hnot : ∀ j, j ≠ par P (k - 1) → k ∉ Pl.ch (par P) j n := fun j hj hm => by
    obtain ⟨i, _, h2, h3⟩ := Pl.mem_ch hm
    rw [show k - 1 = i by omega] at hj
    exact hj h3.symm
  refine size_any (n + 1) (CM P n k) blk its (upd fs (par P (k - 1)) ((fs (par P (k - 1))).filter fun p => decide (p.2 ≠ k))) (Pl.wgt (par P) n (wtC P k)) ?_ ?_ ?_ ?_ ?_ ?_ (n + 1) 0 (by omega) ⟨by omega, Pl.hit_below (by omega)⟩ w (fun j hj => hR j hj.1)
  · rintro j ⟨hj, hh⟩ c hc
    have hm := (kids_mem hK (j := j) (by omega)).1 c hc
    have := ch_gt hP hm
    refine ⟨⟨by omega, hit_child hP hm ?_ hh⟩, by omega, by omega⟩
    intro e
    subst e
    by_cases ej : j = par P (c - 1)
    · have := (hK j (by omega)).1
      rw [ej, hob] at this
      rw [← ej] at this
      rw [this] at hc; simp at hc
    · exact hnot j ej hm
  · rintro j ⟨hj, hh⟩ p hp
    have hp2 : p ∈ fs j ∧ p.2 ≠ k := by
      by_cases ej : j = par P (k - 1)
      · subst ej
        rw [upd_same] at hp
        have := List.mem_filter.1 hp
        exact ⟨this.1, by simpa using this.2⟩
      · rw [upd_other _ _ _ _ ej] at hp
        refine ⟨hp, fun e => hnot j ej ?_⟩
        rw [← e]
        exact (kids_mem hK (j := j) (by omega)).2.1 p hp
    have hm := (kids_mem hK (j := j) (by omega)).2.1 p hp2.1
    have := ch_gt hP hm
    exact ⟨⟨by omega, hit_child hP hm hp2.2 hh⟩, by omega, by omega⟩
  · rintro j ⟨hj, hh⟩
    rw [Pl.wgt_ch (par_le hP) _ j (by omega), wtC_one hh, Nat.add_assoc, ← kids_sum hK (j := j) (by omega)]
    by_cases ej : j = par P (k - 1)
    · subst ej
      rw [upd_same]
      have e2 : ((fs (par P (k - 1))).filter fun p => decide (p.2 ≠ k)).map Prod.snd = ((fs (par P (k - 1))).map Prod.snd).filter fun c => decide (c ≠ k) := by
        rw [List.filter_map]; rfl
      rw [e2, lsum_filter _ _ (wgtC_self P n k)]
    · rw [upd_other _ _ _ _ ej]
  · rintro j ⟨hj, hh⟩
    have := Pl.wgt_le (par := par P) (n := n) (wtC P k) j
    have h3 : Pl.sumTo (wtC P k) (n + 1) ≤ Pl.sumTo (fun _ => 1) (n + 1) := Pl.sumTo_le _ fun i _ => by unfold wtC Pl.b2n; split <;> omega
    rw [Pl.sumTo_one] at h3; omega
  · rintro j ⟨hj, hh⟩
    have := (kids_mem hK (j := j) (by omega)).2.2.1; omega
  · rintro j ⟨hj, hh⟩
    have := (kids_mem hK (j := j) (by omega)).2.2.2
    by_cases ej : j = par P (k - 1)
    · subst ej
      rw [upd_same]
      have h3 := List.length_filter_le (fun p : ByteArray × Nat => decide (p.2 ≠ k)) (fs (par P (k - 1)))
      omega
    · rw [upd_other _ _ _ _ ej]; omega

theorem cut_item_call {w : World} {blk : Nat → Nat} (hP : ∀ i, i < n → 0 ≤ P i ∧ P i ≤ i) (hK : Kids P ob n its fs) (hn : n ≤ 65536) (h1 : 1 ≤ k)
    (hob : ob (par P (k - 1)) = false) (hR : Rd w (fun j => j < n + 1) blk (upd its (par P (k - 1)) ((its (par P (k - 1))).filter fun c => decide (c ≠ k))) fs) :
    Calls Try.prog 8 #[.pointer (some ⟨blk 0, 0, none⟩)] w fun e w' => e = .returned (.int .i64 (Pl.wgt (par P) n (wtC P k) 0 : Nat)) ∧ Below w.heap.size w w' := by
  have hnot : ∀ j, j ≠ par P (k - 1) → k ∉ Pl.ch (par P) j n := fun j hj hm => by
    obtain ⟨i, _, h2, h3⟩ := Pl.mem_ch hm
    rw [show k - 1 = i by omega] at hj
    exact hj h3.symm
  refine size_any (n + 1) (CM P n k) blk (upd its (par P (k - 1)) ((its (par P (k - 1))).filter fun c => decide (c ≠ k))) fs (Pl.wgt (par P) n (wtC P k)) ?_ ?_ ?_ ?_ ?_ ?_ (n + 1) 0 (by omega) ⟨by omega, Pl.hit_below (by omega)⟩ w (fun j hj => hR j hj.1)
  · rintro j ⟨hj, hh⟩ c hc
    have hp2 : c ∈ its j ∧ c ≠ k := by
      by_cases ej : j = par P (k - 1)
      · subst ej
        rw [upd_same] at hc
        have := List.mem_filter.1 hc
        exact ⟨this.1, by simpa using this.2⟩
      · rw [upd_other _ _ _ _ ej] at hc
        refine ⟨hc, fun e => hnot j ej ?_⟩
        rw [← e]
        exact (kids_mem hK (j := j) (by omega)).1 c hc
    have hm := (kids_mem hK (j := j) (by omega)).1 c hp2.1
    have := ch_gt hP hm
    exact ⟨⟨by omega, hit_child hP hm hp2.2 hh⟩, by omega, by omega⟩
  · rintro j ⟨hj, hh⟩ p hp
    have hm := (kids_mem hK (j := j) (by omega)).2.1 p hp
    have := ch_gt hP hm
    refine ⟨⟨by omega, hit_child hP hm ?_ hh⟩, by omega, by omega⟩
    intro e
    by_cases ej : j = par P (k - 1)
    · have h3 := (hK j (by omega)).2
      rw [ej, hob] at h3
      rw [← ej] at h3
      have h4 : fs j = [] := by simpa using h3
      rw [h4] at hp; simp at hp
    · exact hnot j ej (by rw [← e]; exact hm)
  · rintro j ⟨hj, hh⟩
    rw [Pl.wgt_ch (par_le hP) _ j (by omega), wtC_one hh, Nat.add_assoc, ← kids_sum hK (j := j) (by omega)]
    by_cases ej : j = par P (k - 1)
    · subst ej
      rw [upd_same, lsum_filter _ _ (wgtC_self P n k)]
    · rw [upd_other _ _ _ _ ej]
  · rintro j ⟨hj, hh⟩
    have := Pl.wgt_le (par := par P) (n := n) (wtC P k) j
    have h3 : Pl.sumTo (wtC P k) (n + 1) ≤ Pl.sumTo (fun _ => 1) (n + 1) := Pl.sumTo_le _ fun i _ => by unfold wtC Pl.b2n; split <;> omega
    rw [Pl.sumTo_one] at h3; omega
  · rintro j ⟨hj, hh⟩
    have := (kids_mem hK (j := j) (by omega)).2.2.1
    by_cases ej : j = par P (k - 1)
    · subst ej
      rw [upd_same]
      have h3 := List.length_filter_le (fun c : Nat => decide (c ≠ k)) (its (par P (k - 1)))
      omega
    · rw [upd_other _ _ _ _ ej]; omega
  · rintro j ⟨hj, hh⟩
    have := (kids_mem hK (j := j) (by omega)).2.2.2; omega
end

end Go.Proofs.Qxb6627519a
