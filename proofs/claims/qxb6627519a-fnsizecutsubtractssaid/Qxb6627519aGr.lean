import Derived.Test.Qxb6627519aBw
namespace Go.Proofs.Qxb6627519a
open Go.RowKit

/-! ### Sizes -/
structure SizeOk (N : Nat) (its : Nat → List Nat) (fs : Nat → List (ByteArray × Nat)) (sz : Nat → Nat) : Prop where
  hi : ∀ j, j < N → ∀ c, c ∈ its j → c < N ∧ j < c ∧ c < N
  hf : ∀ j, j < N → ∀ p, p ∈ fs j → p.2 < N ∧ j < p.2 ∧ p.2 < N
  hsz : ∀ j, j < N → sz j = 1 + Pl.lsum sz (its j) + Pl.lsum sz ((fs j).map Prod.snd)
  hb : ∀ j, j < N → sz j ≤ 1099511627776
  hli : ∀ j, j < N → (its j).length ≤ 1099511627776
  hlf : ∀ j, j < N → (fs j).length ≤ 1099511627776

theorem size_call {N : Nat} {blk : Nat → Nat} {its : Nat → List Nat} {fs : Nat → List (ByteArray × Nat)} {sz : Nat → Nat} (h : SizeOk N its fs sz) (j : Nat) (hj : j < N) (w : World) (hR : Rd w (fun j => j < N) blk its fs) :
    Calls Try.prog 8 #[.pointer (some ⟨blk j, 0, none⟩)] w fun e w' => e = .returned (.int .i64 (sz j : Nat)) ∧ Below w.heap.size w w' :=
  size_any N (fun j => j < N) blk its fs sz h.hi h.hf h.hsz h.hb h.hli h.hlf N j (by omega) hj w hR

theorem kids_sum {P : Nat → Int} {ob : Nat → Bool} {m : Nat} {its : Nat → List Nat} {fs : Nat → List (ByteArray × Nat)} (h : Kids P ob m its fs) {j : Nat} (hj : j ≤ m) (f : Nat → Nat) :
    Pl.lsum f (its j) + Pl.lsum f ((fs j).map Prod.snd) = Pl.lsum f (Pl.ch (par P) j m) := by
  obtain ⟨h1, h2⟩ := h j hj
  rw [h1, h2]
  cases ob j <;> simp [Pl.lsum]

theorem kids_mem {P : Nat → Int} {ob : Nat → Bool} {m : Nat} {its : Nat → List Nat} {fs : Nat → List (ByteArray × Nat)} (h : Kids P ob m its fs) {j : Nat} (hj : j ≤ m) :
    (∀ c, c ∈ its j → c ∈ Pl.ch (par P) j m) ∧ (∀ p, p ∈ fs j → p.2 ∈ Pl.ch (par P) j m) ∧ (its j).length ≤ m ∧ (fs j).length ≤ m := by
  obtain ⟨h1, h2⟩ := h j hj
  have hl := Pl.length_ch (par P) j m
  have h3 : (fs j).length = ((fs j).map Prod.snd).length := by simp
  refine ⟨fun c hc => ?_, fun p hp => ?_, ?_, ?_⟩
  · rw [h1] at hc
    cases hob : ob j <;> rw [hob] at hc
    · exact hc
    · simp at hc
  · have hp2 : p.2 ∈ (fs j).map Prod.snd := List.mem_map.2 ⟨p, hp, rfl⟩
    rw [h2] at hp2
    cases hob : ob j <;> rw [hob] at hp2
    · simp at hp2
    · exact hp2
  · rw [h1]; split <;> simp_all
  · rw [h3, h2]; split <;> simp_all

theorem par_le {P : Nat → Int} {n : Nat} (hP : ∀ i, i < n → 0 ≤ P i ∧ P i ≤ i) : ∀ i, i < n → par P i ≤ i := fun i hi => by
  have := hP i hi; unfold par; omega

theorem ch_gt {P : Nat → Int} {n : Nat} (hP : ∀ i, i < n → 0 ≤ P i ∧ P i ≤ i) {j c : Nat} (h : c ∈ Pl.ch (par P) j n) : j < c ∧ c < n + 1 := by
  obtain ⟨i, h1, h2, h3⟩ := Pl.mem_ch h
  have := par_le hP i h1
  omega

theorem single_ok {P : Nat → Int} {ob : Nat → Bool} {n : Nat} {its : Nat → List Nat} {fs : Nat → List (ByteArray × Nat)} (hP : ∀ i, i < n → 0 ≤ P i ∧ P i ≤ i) (hn : n ≤ 65536) (hK : Kids P ob n its fs) :
    SizeOk (n + 1) its fs (Pl.wgt (par P) n (fun _ => 1)) := by
  refine ⟨fun j hj c hc => ?_, fun j hj p hp => ?_, fun j hj => ?_, fun j hj => ?_, fun j hj => ?_, fun j hj => ?_⟩
  · have := ch_gt hP ((kids_mem hK (by omega)).1 c hc); omega
  · have := ch_gt hP ((kids_mem hK (by omega)).2.1 p hp); omega
  · rw [Nat.add_assoc, kids_sum hK (by omega)]
    exact Pl.wgt_ch (par_le hP) _ j (by omega)
  · have := Pl.wgt_le (par := par P) (n := n) (fun _ => 1) j
    rw [Pl.sumTo_one] at this; omega
  · have := (kids_mem hK (j := j) (by omega)).2.2.1; omega
  · have := (kids_mem hK (j := j) (by omega)).2.2.2; omega

/-! ### Two families as one -/
def joinF {α : Type} (N : Nat) (f g : Nat → α) : Nat → α := fun j => if j < N then f j else g (j - N)
theorem joinF_lt {α : Type} {N : Nat} {f g : Nat → α} {j : Nat} (h : j < N) : joinF N f g j = f j := by simp [joinF, h]
theorem joinF_add {α : Type} {N : Nat} {f g : Nat → α} (j : Nat) : joinF N f g (j + N) = g j := by unfold joinF; rw [if_neg (by omega), Nat.add_sub_cancel]

def shI (N : Nat) (its : Nat → List Nat) : Nat → List Nat := fun j => (its j).map (· + N)
def shF (N : Nat) (fs : Nat → List (ByteArray × Nat)) : Nat → List (ByteArray × Nat) := fun j => (fs j).map fun p => (p.1, p.2 + N)

theorem Fam.join {wA w : World} {base base2 N1 N2 : Nat} {blk1 blk2 : Nat → Nat} {ob1 ob2 : Nat → Bool} {its1 its2 : Nat → List Nat} {fs1 fs2 : Nat → List (ByteArray × Nat)} {tag1 tag2 : Nat → Nat}
    (h1 : Fam wA base N1 blk1 ob1 its1 fs1 tag1) (h2 : Fam w base2 N2 blk2 ob2 its2 fs2 tag2) (e : ∀ k, k < wA.heap.size → w.heap[k]? = wA.heap[k]?) (hb : wA.heap.size ≤ base2) (hbb : base ≤ base2) :
    Fam w base (N1 + N2) (joinF N1 blk1 blk2) (joinF N1 ob1 ob2) (joinF N1 its1 (shI N1 its2)) (joinF N1 fs1 (shF N1 fs2)) (fun g => if g < base2 then tag1 g else tag2 g + 3 * N1) := by
  refine ⟨fun j hj => ?_, fun j hj c hc => ?_, fun j hj p hp => ?_⟩
  · by_cases hj1 : j < N1
    · obtain ⟨iv, fv, q1, q2, q3, q4, q5, q6, q7⟩ := h1.node j hj1
      have hl := lt_of_blk q1
      have ei : (joinF N1 its1 (shI N1 its2) j).map (joinF N1 blk1 blk2) = (its1 j).map blk1 := by
        rw [joinF_lt hj1]
        exact List.map_congr_left fun c hc => joinF_lt (h1.ilt j hj1 c hc)
      have ef : (joinF N1 fs1 (shF N1 fs2) j).map (fun p => (p.1, joinF N1 blk1 blk2 p.2)) = (fs1 j).map fun p => (p.1, blk1 p.2) := by
        rw [joinF_lt hj1]
        refine List.map_congr_left fun p hp => ?_
        rw [joinF_lt (h1.flt j hj1 p hp)]
      refine ⟨iv, fv, ?_, ?_, ?_, ?_, ?_, ?_, ?_⟩
      · rw [joinF_lt hj1, joinF_lt hj1, e _ hl]; exact q1
      · rw [ei, joinF_lt hj1]; exact owns_same q2 (fun g _ _ hl => e g hl)
      · rw [ef, joinF_lt hj1]; exact owns_same q3 (fun g _ _ hl => e g hl)
      · rw [joinF_lt hj1]; exact q4
      · rw [joinF_lt hj1]; show (if blk1 j < base2 then _ else _) = _; rw [if_pos (by omega)]; exact q5
      · intro g hg; have := owns_lt q2 hg; show (if g < base2 then _ else _) = _; rw [if_pos (by omega)]; exact q6 g hg
      · intro g hg; have := owns_lt q3 hg; show (if g < base2 then _ else _) = _; rw [if_pos (by omega)]; exact q7 g hg
    · obtain ⟨i, rfl⟩ : ∃ i, j = i + N1 := ⟨j - N1, by omega⟩
      obtain ⟨iv, fv, q1, q2, q3, q4, q5, q6, q7⟩ := h2.node i (by omega)
      have ei : (joinF N1 its1 (shI N1 its2) (i + N1)).map (joinF N1 blk1 blk2) = (its2 i).map blk2 := by
        rw [joinF_add, shI, List.map_map]
        exact List.map_congr_left fun c hc => joinF_add c
      have ef : (joinF N1 fs1 (shF N1 fs2) (i + N1)).map (fun p => (p.1, joinF N1 blk1 blk2 p.2)) = (fs2 i).map fun p => (p.1, blk2 p.2) := by
        rw [joinF_add, shF, List.map_map]
        refine List.map_congr_left fun p hp => ?_
        show (p.1, joinF N1 blk1 blk2 (p.2 + N1)) = _
        rw [joinF_add]
      refine ⟨iv, fv, ?_, ?_, ?_, ?_, ?_, ?_, ?_⟩
      · rw [joinF_add, joinF_add]; exact q1
      · rw [ei, joinF_add, shI, List.length_map]
        refine ⟨q2.1, ?_⟩
        rcases q2.2 with h | ⟨g, cap, cur, hv, hg, r⟩
        · exact .inl h
        · exact .inr ⟨g, cap, cur, hv, by omega, r⟩
      · rw [ef, joinF_add, shF, List.length_map]
        refine ⟨q3.1, ?_⟩
        rcases q3.2 with h | ⟨g, cap, cur, hv, hg, r⟩
        · exact .inl h
        · exact .inr ⟨g, cap, cur, hv, by omega, r⟩
      · rw [joinF_add]; omega
      · rw [joinF_add]; show (if blk2 i < base2 then _ else _) = _; rw [if_neg (by omega), q5]; omega
      · intro g hg; have := owns_lt q2 hg; show (if g < base2 then _ else _) = _; rw [if_neg (by omega), q6 g hg]; omega
      · intro g hg; have := owns_lt q3 hg; show (if g < base2 then _ else _) = _; rw [if_neg (by omega), q7 g hg]; omega
  · by_cases hj1 : j < N1
    · rw [joinF_lt hj1] at hc; have := h1.ilt j hj1 c hc; omega
    · obtain ⟨i, rfl⟩ : ∃ i, j = i + N1 := ⟨j - N1, by omega⟩
      rw [joinF_add, shI] at hc
      obtain ⟨d, hd, rfl⟩ := List.mem_map.1 hc
      have := h2.ilt i (by omega) d hd; omega
  · by_cases hj1 : j < N1
    · rw [joinF_lt hj1] at hp; have := h1.flt j hj1 p hp; omega
    · obtain ⟨i, rfl⟩ : ∃ i, j = i + N1 := ⟨j - N1, by omega⟩
      rw [joinF_add, shF] at hp
      obtain ⟨d, hd, rfl⟩ := List.mem_map.1 hp
      have := h2.flt i (by omega) d hd; show d.2 + N1 < _; omega

/-! ### The grafted tree's sizes -/
theorem lsum_map (f : Nat → Nat) (g : Nat → Nat) (l : List Nat) : Pl.lsum f (l.map g) = Pl.lsum (fun x => f (g x)) l := by
  induction l with
  | nil => rfl
  | cons c l ih => simp only [List.map_cons, Pl.lsum, ih]

def wtJ (t m : Nat) : Nat → Nat := fun x => 1 + if x = t then m else 0
theorem sum_wtJ (t m n : Nat) (h : t < n) : Pl.sumTo (wtJ t m) n = n + m := by
  unfold wtJ
  rw [Pl.sumTo_add (fun _ => 1) (fun x => if x = t then m else 0), Pl.sumTo_one, Pl.sumTo_at, if_pos h]

/-- The sizes in the joined tree: B's root (number n + 1) hangs under node t of A. -/
def szJ (P Q : Nat → Int) (n m t : Nat) : Nat → Nat := joinF (n + 1) (Pl.wgt (par P) n (wtJ t (m + 1))) (Pl.wgt (par Q) m (fun _ => 1))

section
variable {P Q : Nat → Int} {obA obB : Nat → Bool} {n m t : Nat} {itsA itsB : Nat → List Nat} {fsA fsB : Nat → List (ByteArray × Nat)}

theorem szJ_low (j : Nat) (hj : j < n + 1) : szJ P Q n m t j = Pl.wgt (par P) n (wtJ t (m + 1)) j := joinF_lt hj
theorem szJ_high (j : Nat) : szJ P Q n m t (j + (n + 1)) = Pl.wgt (par Q) m (fun _ => 1) j := joinF_add j

/-- What the lists of a joined family add up to, ahead of the graft. -/
theorem join_sum (hP : ∀ i, i < n → 0 ≤ P i ∧ P i ≤ i) (hA : Kids P obA n itsA fsA) (hB : Kids Q obB m itsB fsB) (j : Nat) (hj : j < n + 1 + (m + 1)) :
    Pl.lsum (szJ P Q n m t) (joinF (n + 1) itsA (shI (n + 1) itsB) j) + Pl.lsum (szJ P Q n m t) ((joinF (n + 1) fsA (shF (n + 1) fsB) j).map Prod.snd) =
      if j < n + 1 then Pl.lsum (Pl.wgt (par P) n (wtJ t (m + 1))) (Pl.ch (par P) j n) else Pl.lsum (Pl.wgt (par Q) m (fun _ => 1)) (Pl.ch (par Q) (j - (n + 1)) m) := by
  by_cases h : j < n + 1
  · rw [joinF_lt h, joinF_lt h, if_pos h, kids_sum hA (by omega)]
    refine Pl.lsum_congr _ fun c hc => szJ_low c ?_
    exact (ch_gt hP hc).2
  · obtain ⟨i, rfl⟩ : ∃ i, j = i + (n + 1) := ⟨j - (n + 1), by omega⟩
    rw [joinF_add, joinF_add, if_neg h, shI, shF, List.map_map, Nat.add_sub_cancel]
    have e2 : (fsB i).map (Prod.snd ∘ fun p => (p.1, p.2 + (n + 1))) = ((fsB i).map Prod.snd).map (· + (n + 1)) := by rw [List.map_map]; rfl
    rw [e2, lsum_map, lsum_map, kids_sum hB (by omega)]
    exact Pl.lsum_congr _ fun c _ => szJ_high c

theorem join_mem (hP : ∀ i, i < n → 0 ≤ P i ∧ P i ≤ i) (hQ : ∀ i, i < m → 0 ≤ Q i ∧ Q i ≤ i) (hA : Kids P obA n itsA fsA) (hB : Kids Q obB m itsB fsB) (hn : n ≤ 65536) (hm : m ≤ 65536) (j : Nat) (hj : j < n + 1 + (m + 1)) :
    (∀ c, c ∈ joinF (n + 1) itsA (shI (n + 1) itsB) j → j < c ∧ c < n + 1 + (m + 1)) ∧ (∀ p, p ∈ joinF (n + 1) fsA (shF (n + 1) fsB) j → j < p.2 ∧ p.2 < n + 1 + (m + 1)) ∧
      (joinF (n + 1) itsA (shI (n + 1) itsB) j).length ≤ 65536 ∧ (joinF (n + 1) fsA (shF (n + 1) fsB) j).length ≤ 65536 := by
  by_cases h : j < n + 1
  · rw [joinF_lt h, joinF_lt h]
    obtain ⟨k1, k2, k3, k4⟩ := kids_mem hA (j := j) (by omega)
    refine ⟨fun c hc => ?_, fun p hp => ?_, by omega, by omega⟩
    · have := ch_gt hP (k1 c hc); omega
    · have := ch_gt hP (k2 p hp); omega
  · obtain ⟨i, rfl⟩ : ∃ i, j = i + (n + 1) := ⟨j - (n + 1), by omega⟩
    obtain ⟨k1, k2, k3, k4⟩ := kids_mem hB (j := i) (by omega)
    rw [joinF_add, joinF_add, shI, shF, List.length_map, List.length_map]
    refine ⟨fun c hc => ?_, fun p hp => ?_, by omega, by omega⟩
    · obtain ⟨d, hd, rfl⟩ := List.mem_map.1 hc
      have := ch_gt hQ (k1 d hd); omega
    · obtain ⟨d, hd, rfl⟩ := List.mem_map.1 hp
      have := ch_gt hQ (k2 d hd)
      show _ < d.2 + (n + 1) ∧ d.2 + (n + 1) < _
      omega

theorem szJ_split (hP : ∀ i, i < n → 0 ≤ P i ∧ P i ≤ i) (hQ : ∀ i, i < m → 0 ≤ Q i ∧ Q i ≤ i) (j : Nat) (hj : j < n + 1 + (m + 1)) :
    szJ P Q n m t j = (1 + if j = t ∧ j < n + 1 then m + 1 else 0) + if j < n + 1 then Pl.lsum (Pl.wgt (par P) n (wtJ t (m + 1))) (Pl.ch (par P) j n) else Pl.lsum (Pl.wgt (par Q) m (fun _ => 1)) (Pl.ch (par Q) (j - (n + 1)) m) := by
  by_cases h : j < n + 1
  · rw [szJ_low j h, if_pos h, Pl.wgt_ch (par_le hP) _ j (by omega)]
    congr 1
    unfold wtJ
    by_cases e : j = t
    · rw [if_pos e, if_pos ⟨e, h⟩]
    · rw [if_neg e, if_neg (fun x => e x.1)]
  · obtain ⟨i, rfl⟩ : ∃ i, j = i + (n + 1) := ⟨j - (n + 1), by omega⟩
    rw [szJ_high, if_neg h, if_neg (fun x => h x.2), Nat.add_sub_cancel, Pl.wgt_ch (par_le hQ) _ i (by omega)]

theorem szJ_le (ht : t < n + 1) (j : Nat) : szJ P Q n m t j ≤ n + 1 + (m + 1) := by
  unfold szJ joinF
  split
  · have := Pl.wgt_le (par := par P) (n := n) (wtJ t (m + 1)) j
    rw [sum_wtJ t (m + 1) (n + 1) ht] at this; exact this
  · have := Pl.wgt_le (par := par Q) (n := m) (fun _ => 1) (j - (n + 1))
    rw [Pl.sumTo_one] at this; omega

theorem szJ_root (hP : ∀ i, i < n → 0 ≤ P i ∧ P i ≤ i) (ht : t < n + 1) : szJ P Q n m t 0 = (n + 1) + (m + 1) := by
  rw [szJ_low 0 (by omega), Pl.wgt_root (par_le hP), sum_wtJ t (m + 1) (n + 1) ht]

theorem szJ_B (hQ : ∀ i, i < m → 0 ≤ Q i ∧ Q i ≤ i) : szJ P Q n m t (n + 1) = m + 1 := by
  have := szJ_high (P := P) (Q := Q) (n := n) (m := m) (t := t) 0
  rw [Nat.zero_add] at this
  rw [this, Pl.wgt_root (par_le hQ), Pl.sumTo_one]

theorem graft_item_ok (hP : ∀ i, i < n → 0 ≤ P i ∧ P i ≤ i) (hQ : ∀ i, i < m → 0 ≤ Q i ∧ Q i ≤ i) (hA : Kids P obA n itsA fsA) (hB : Kids Q obB m itsB fsB) (hn : n ≤ 65536) (hm : m ≤ 65536) (ht : t < n + 1) :
    SizeOk (n + 1 + (m + 1)) (upd (joinF (n + 1) itsA (shI (n + 1) itsB)) t (joinF (n + 1) itsA (shI (n + 1) itsB) t ++ [n + 1])) (joinF (n + 1) fsA (shF (n + 1) fsB)) (szJ P Q n m t) := by
  refine ⟨fun j hj c hc => ?_, fun j hj p hp => ?_, fun j hj => ?_, fun j hj => ?_, fun j hj => ?_, fun j hj => ?_⟩
  · by_cases e : j = t
    · subst e
      rw [upd_same] at hc
      rcases List.mem_append.1 hc with hc | hc
      · have := (join_mem hP hQ hA hB hn hm j hj).1 c hc; omega
      · simp at hc; omega
    · rw [upd_other _ _ _ _ e] at hc
      have := (join_mem hP hQ hA hB hn hm j hj).1 c hc; omega
  · have := (join_mem hP hQ hA hB hn hm j hj).2.1 p hp; omega
  · have hs := join_sum (t := t) hP hA hB j hj
    rw [szJ_split hP hQ j hj, ← hs]
    by_cases e : j = t
    · subst e
      rw [upd_same, Pl.lsum_append, if_pos ⟨rfl, ht⟩]
      simp only [Pl.lsum, szJ_B hQ]
      omega
    · rw [upd_other _ _ _ _ e, if_neg (fun x => e x.1)]; omega
  · have := szJ_le (P := P) (Q := Q) (m := m) ht j; omega
  · have := (join_mem hP hQ hA hB hn hm j hj).2.2.1
    by_cases e : j = t
    · subst e; rw [upd_same, List.length_append]; simp; omega
    · rw [upd_other _ _ _ _ e]; omega
  · have := (join_mem hP hQ hA hB hn hm j hj).2.2.2; omega

theorem graft_field_ok (s : ByteArray) (hP : ∀ i, i < n → 0 ≤ P i ∧ P i ≤ i) (hQ : ∀ i, i < m → 0 ≤ Q i ∧ Q i ≤ i) (hA : Kids P obA n itsA fsA) (hB : Kids Q obB m itsB fsB) (hn : n ≤ 65536) (hm : m ≤ 65536) (ht : t < n + 1) :
    SizeOk (n + 1 + (m + 1)) (joinF (n + 1) itsA (shI (n + 1) itsB)) (upd (joinF (n + 1) fsA (shF (n + 1) fsB)) t (joinF (n + 1) fsA (shF (n + 1) fsB) t ++ [(s, n + 1)])) (szJ P Q n m t) := by
  refine ⟨fun j hj c hc => ?_, fun j hj p hp => ?_, fun j hj => ?_, fun j hj => ?_, fun j hj => ?_, fun j hj => ?_⟩
  · have := (join_mem hP hQ hA hB hn hm j hj).1 c hc; omega
  · by_cases e : j = t
    · subst e
      rw [upd_same] at hp
      rcases List.mem_append.1 hp with hp | hp
      · have := (join_mem hP hQ hA hB hn hm j hj).2.1 p hp; omega
      · simp at hp; subst hp; show n + 1 < _ ∧ _ < n + 1 ∧ n + 1 < _; omega
    · rw [upd_other _ _ _ _ e] at hp
      have := (join_mem hP hQ hA hB hn hm j hj).2.1 p hp; omega
  · have hs := join_sum (t := t) hP hA hB j hj
    rw [szJ_split hP hQ j hj, ← hs]
    by_cases e : j = t
    · subst e
      rw [upd_same, List.map_append, Pl.lsum_append, if_pos ⟨rfl, ht⟩]
      simp only [List.map_cons, List.map_nil, Pl.lsum, szJ_B hQ]
      omega
    · rw [upd_other _ _ _ _ e, if_neg (fun x => e x.1)]; omega
  · have := szJ_le (P := P) (Q := Q) (m := m) ht j; omega
  · have := (join_mem hP hQ hA hB hn hm j hj).2.2.1; omega
  · have := (join_mem hP hQ hA hB hn hm j hj).2.2.2
    by_cases e : j = t
    · subst e; rw [upd_same, List.length_append]; simp; omega
    · rw [upd_other _ _ _ _ e]; omega
end

theorem graft_below {w wD w3 wE : World} (h : Below w.heap.size w wD) {o : Obj} {row : Option Nat} (hg : (wD.alloc o).drew.grownBy w3 row) (hr : ∀ k, row = some k → w.heap.size ≤ k) {a : Addr} (ha : w.heap.size ≤ a.block) {v : Value}
    (hE : Below w3.heap.size (w3.setCell a v) wE) : Below w.heap.size w wE := by
  have h1 : Below w.heap.size w (wD.alloc o).drew := (h.alloc h.size o).drew
  have h2 := h1.grown hg h1.size hr
  have h3 := h2.setCell (p := a) ha v
  exact h3.trans (hE.mono h2.size)

/-! ### The graft in memory, and the size of the whole behind it -/
section
variable {P Q : Nat → Int} {obA obB ob : Nat → Bool} {n m t : Nat} {itsA itsB : Nat → List Nat} {fsA fsB : Nat → List (ByteArray × Nat)} {blkA blkB tag : Nat → Nat} {wD w3 : World} {base g cap : Nat} {iv fv : Value}

theorem graft_item_call (hP : ∀ i, i < n → 0 ≤ P i ∧ P i ≤ i) (hQ : ∀ i, i < m → 0 ≤ Q i ∧ Q i ≤ i) (hA : Kids P obA n itsA fsA) (hB : Kids Q obB m itsB fsB) (hn : n ≤ 65536) (hm : m ≤ 65536) (ht : t < n + 1)
    (hJ : Fam wD base (n + 1 + (m + 1)) (joinF (n + 1) blkA blkB) ob (joinF (n + 1) itsA (shI (n + 1) itsB)) (joinF (n + 1) fsA (shF (n + 1) fsB)) tag)
    (q1 : wD.heap[blkA t]? = some (.cells (ncells (kind (ob t)) iv fv) 37 (0, 0))) (o : Obj) (hg : (wD.alloc o).drew.grownBy w3 iv.ownBlock)
    (hown : w3.ownsRow base 27 1 (.slice (some ⟨g, 0, none⟩) ((joinF (n + 1) itsA (shI (n + 1) itsB) t).length + 1) cap) ((joinF (n + 1) itsA (shI (n + 1) itsB) t).length + 1) (ptrs ((joinF (n + 1) itsA (shI (n + 1) itsB) t).map (joinF (n + 1) blkA blkB)) ++ [.pointer (some ⟨blkB 0, 0, none⟩)]))
    (hat : iv.ownBlock = some g ∨ g = wD.heap.size + 1) :
    Calls Try.prog 8 #[.pointer (some ⟨blkA 0, 0, none⟩)] (w3.setCell ⟨blkA t, 9, none⟩ (.slice (some ⟨g, 0, none⟩) ((joinF (n + 1) itsA (shI (n + 1) itsB) t).length + 1) cap))
      fun e w' => e = .returned (.int .i64 ((n + 1) + (m + 1) : Nat)) ∧ Below w3.heap.size (w3.setCell ⟨blkA t, 9, none⟩ (.slice (some ⟨g, 0, none⟩) ((joinF (n + 1) itsA (shI (n + 1) itsB) t).length + 1) cap)) w' := by
  have e0 : joinF (n + 1) blkA blkB 0 = blkA 0 := joinF_lt (by omega)
  have et : joinF (n + 1) blkA blkB t = blkA t := joinF_lt ht
  have eb : joinF (n + 1) blkA blkB (n + 1) = blkB 0 := by have := joinF_add (N := n + 1) (f := blkA) (g := blkB) 0; rwa [Nat.zero_add] at this
  have F2 := hJ.item (p := t) (c := n + 1) (by omega) (by omega) (iv := iv) (fv := fv) (by rw [et]; exact q1) (w0 := (wD.alloc o).drew) (w1 := w3)
    (fun k _ h2 => Below.heap_alloc _ _ _ h2) (by show wD.heap.size ≤ (wD.alloc o).heap.size; simp) hg (g := g) (cap := cap) (by rw [eb]; exact hown) (by rcases hat with h | h; exact .inl h; exact .inr (by omega))
  rw [et] at F2
  have := size_call (graft_item_ok hP hQ hA hB hn hm ht) 0 (by omega) _ F2.rd
  rw [e0, szJ_root hP ht, size_set] at this
  exact this

theorem graft_field_call (s : ByteArray) (hP : ∀ i, i < n → 0 ≤ P i ∧ P i ≤ i) (hQ : ∀ i, i < m → 0 ≤ Q i ∧ Q i ≤ i) (hA : Kids P obA n itsA fsA) (hB : Kids Q obB m itsB fsB) (hn : n ≤ 65536) (hm : m ≤ 65536) (ht : t < n + 1)
    (hJ : Fam wD base (n + 1 + (m + 1)) (joinF (n + 1) blkA blkB) ob (joinF (n + 1) itsA (shI (n + 1) itsB)) (joinF (n + 1) fsA (shF (n + 1) fsB)) tag)
    (q1 : wD.heap[blkA t]? = some (.cells (ncells (kind (ob t)) iv fv) 37 (0, 0))) (o : Obj) (hg : (wD.alloc o).drew.grownBy w3 fv.ownBlock)
    (hown : w3.ownsRow base 39 5 (.slice (some ⟨g, 0, none⟩) ((joinF (n + 1) fsA (shF (n + 1) fsB) t).length + 1) cap) ((joinF (n + 1) fsA (shF (n + 1) fsB) t).length + 1) (fcells ((joinF (n + 1) fsA (shF (n + 1) fsB) t).map fun p => (p.1, joinF (n + 1) blkA blkB p.2)) ++ fcells [(s, blkB 0)]))
    (hat : fv.ownBlock = some g ∨ g = wD.heap.size + 1) :
    Calls Try.prog 8 #[.pointer (some ⟨blkA 0, 0, none⟩)] (w3.setCell ⟨blkA t, 10, none⟩ (.slice (some ⟨g, 0, none⟩) ((joinF (n + 1) fsA (shF (n + 1) fsB) t).length + 1) cap))
      fun e w' => e = .returned (.int .i64 ((n + 1) + (m + 1) : Nat)) ∧ Below w3.heap.size (w3.setCell ⟨blkA t, 10, none⟩ (.slice (some ⟨g, 0, none⟩) ((joinF (n + 1) fsA (shF (n + 1) fsB) t).length + 1) cap)) w' := by
  have e0 : joinF (n + 1) blkA blkB 0 = blkA 0 := joinF_lt (by omega)
  have et : joinF (n + 1) blkA blkB t = blkA t := joinF_lt ht
  have eb : joinF (n + 1) blkA blkB (n + 1) = blkB 0 := by have := joinF_add (N := n + 1) (f := blkA) (g := blkB) 0; rwa [Nat.zero_add] at this
  have F2 := hJ.field (p := t) (c := n + 1) s (by omega) (by omega) (iv := iv) (fv := fv) (by rw [et]; exact q1) (w0 := (wD.alloc o).drew) (w1 := w3)
    (fun k _ h2 => Below.heap_alloc _ _ _ h2) (by show wD.heap.size ≤ (wD.alloc o).heap.size; simp) hg (g := g) (cap := cap) (by rw [eb]; exact hown) (by rcases hat with h | h; exact .inl h; exact .inr (by omega))
  rw [et] at F2
  have := size_call (graft_field_ok s hP hQ hA hB hn hm ht) 0 (by omega) _ F2.rd
  rw [e0, szJ_root hP ht, size_set] at this
  exact this
end

end Go.Proofs.Qxb6627519a
