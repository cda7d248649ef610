import Derived.Test.Qxb6627519aW3
namespace Go.Proofs.Qxb6627519a
open Go.RowKit

def upd {α : Type} (f : Nat → α) (k : Nat) (v : α) : Nat → α := fun j => if j = k then v else f j
theorem upd_same {α : Type} (f : Nat → α) (k : Nat) (v : α) : upd f k v k = v := by simp [upd]
theorem upd_other {α : Type} (f : Nat → α) (k : Nat) (v : α) (j : Nat) (h : j ≠ k) : upd f k v j = f j := by simp [upd, h]

theorem lt_of_blk {w : World} {b : Nat} {o : Obj} (h : w.heap[b]? = some o) : b < w.heap.size := by
  rcases Nat.lt_or_ge b w.heap.size with hlt | hge
  · exact hlt
  · rw [Array.getElem?_eq_none hge] at h; cases h

theorem owns_same {w w' : World} {base e sz : Nat} {v : Value} {n : Nat} {xs : List Value} (h : w.ownsRow base e sz v n xs) (he : ∀ g, v.ownBlock = some g → base ≤ g → g < w.heap.size → w'.heap[g]? = w.heap[g]?) : w'.ownsRow base e sz v n xs := by
  refine ⟨h.1, ?_⟩
  rcases h.2 with h2 | ⟨g, cap, cur, hv, h1, hg, r⟩
  · exact .inl h2
  · exact .inr ⟨g, cap, cur, hv, h1, by rw [he g (by rw [hv]; rfl) h1 (lt_of_blk hg)]; exact hg, r⟩

theorem owns_zero {w : World} {base e sz : Nat} {v : Value} {n : Nat} {xs : List Value} (h : w.ownsRow base e sz v n xs) : w.ownsRow 0 e sz v n xs := by
  refine ⟨h.1, ?_⟩
  rcases h.2 with h2 | ⟨g, cap, cur, hv, h1, hg, r⟩
  · exact .inl h2
  · exact .inr ⟨g, cap, cur, hv, Nat.zero_le _, hg, r⟩

def NodeF (w : World) (base : Nat) (blk : Nat → Nat) (ob : Nat → Bool) (its : Nat → List Nat) (fs : Nat → List (ByteArray × Nat)) (tag : Nat → Nat) (j : Nat) : Prop :=
  ∃ iv fv, w.heap[blk j]? = some (.cells (ncells (kind (ob j)) iv fv) 37 (0, 0)) ∧ w.ownsRow base 27 1 iv (its j).length (ptrs ((its j).map blk)) ∧
    w.ownsRow base 39 5 fv (fs j).length (fcells ((fs j).map fun p => (p.1, blk p.2))) ∧ base ≤ blk j ∧ tag (blk j) = 3 * j ∧ (∀ g, iv.ownBlock = some g → tag g = 3 * j + 1) ∧ (∀ g, fv.ownBlock = some g → tag g = 3 * j + 2)

structure Fam (w : World) (base N : Nat) (blk : Nat → Nat) (ob : Nat → Bool) (its : Nat → List Nat) (fs : Nat → List (ByteArray × Nat)) (tag : Nat → Nat) : Prop where
  node : ∀ j, j < N → NodeF w base blk ob its fs tag j
  ilt : ∀ j, j < N → ∀ c, c ∈ its j → c < N
  flt : ∀ j, j < N → ∀ p, p ∈ fs j → p.2 < N

section
variable {w : World} {base N : Nat} {blk : Nat → Nat} {ob : Nat → Bool} {its : Nat → List Nat} {fs : Nat → List (ByteArray × Nat)} {tag : Nat → Nat}

theorem Fam.rd (h : Fam w base N blk ob its fs tag) : Rd w (fun j => j < N) blk its fs := fun j hj => by
  obtain ⟨iv, fv, h1, h2, h3, _⟩ := h.node j hj
  exact ⟨_, iv, fv, h1, by rw [List.length_map]; exact owns_zero h2, by rw [List.length_map]; exact owns_zero h3⟩

/-- Blocks elsewhere may turn. -/
theorem Fam.same (h : Fam w base N blk ob its fs tag) {w' : World} (e : ∀ k, base ≤ k → k < w.heap.size → w'.heap[k]? = w.heap[k]?) : Fam w' base N blk ob its fs tag := by
  refine ⟨fun j hj => ?_, h.ilt, h.flt⟩
  obtain ⟨iv, fv, h1, h2, h3, h4, h5⟩ := h.node j hj
  exact ⟨iv, fv, by rw [e _ h4 (lt_of_blk h1)]; exact h1, owns_same h2 (fun g _ hb hl => e g hb hl), owns_same h3 (fun g _ hb hl => e g hb hl), h4, h5⟩

theorem owns_lt {w : World} {base e sz : Nat} {v : Value} {n : Nat} {xs : List Value} (h : w.ownsRow base e sz v n xs) {g : Nat} (hg : v.ownBlock = some g) : base ≤ g ∧ g < w.heap.size := by
  rcases h.2 with ⟨rfl, _⟩ | ⟨g', cap, cur, rfl, h1, hg', _⟩
  · simp [Value.ownBlock] at hg
  · simp [Value.ownBlock] at hg; subst hg; exact ⟨h1, lt_of_blk hg'⟩

/-- A new node. -/
theorem Fam.push (h : Fam w base N blk ob its fs tag) (hb : base ≤ w.heap.size) :
    Fam (w.alloc (.cells (ncells (kind (ob N)) (.slice none 0 0) (.slice none 0 0)) 37)) base (N + 1) (upd blk N w.heap.size) ob (upd its N []) (upd fs N []) (upd tag w.heap.size (3 * N)) := by
  refine ⟨fun j hj => ?_, fun j hj c hc => ?_, fun j hj p hp => ?_⟩
  · by_cases e : j = N
    · subst e
      refine ⟨.slice none 0 0, .slice none 0 0, ?_, ?_, ?_, ?_, ?_, ?_, ?_⟩
      · rw [upd_same]
        show (w.heap.push _)[w.heap.size]? = _
        simp
      · rw [upd_same]; exact ⟨rfl, .inl ⟨rfl, rfl⟩⟩
      · rw [upd_same]; exact ⟨rfl, .inl ⟨rfl, rfl⟩⟩
      · rw [upd_same]; exact hb
      · rw [upd_same, upd_same]
      · intro g hg; simp [Value.ownBlock] at hg
      · intro g hg; simp [Value.ownBlock] at hg
    · have hjN : j < N := by omega
      obtain ⟨iv, fv, h1, h2, h3, h4, h5, h6, h7⟩ := h.node j hjN
      have ei : (upd its N [] j).map (upd blk N w.heap.size) = (its j).map blk := by
        rw [upd_other _ _ _ _ e]
        refine List.map_congr_left fun c hc => upd_other _ _ _ _ ?_
        have := h.ilt j hjN c hc; omega
      have ef : (upd fs N [] j).map (fun p => (p.1, upd blk N w.heap.size p.2)) = (fs j).map fun p => (p.1, blk p.2) := by
        rw [upd_other _ _ _ _ e]
        refine List.map_congr_left fun p hp => ?_
        rw [upd_other]
        have := h.flt j hjN p hp; omega
      have hl := lt_of_blk h1
      refine ⟨iv, fv, ?_, ?_, ?_, ?_, ?_, ?_, ?_⟩
      · rw [upd_other _ _ _ _ e, Below.heap_alloc _ _ _ hl]; exact h1
      · rw [ei, upd_other _ _ _ _ e]; exact owns_same h2 (fun g _ _ hl => Below.heap_alloc _ _ _ hl)
      · rw [ef, upd_other _ _ _ _ e]; exact owns_same h3 (fun g _ _ hl => Below.heap_alloc _ _ _ hl)
      · rw [upd_other _ _ _ _ e]; exact h4
      · rw [upd_other _ _ _ _ e, upd_other _ _ _ _ (by omega)]; exact h5
      · intro g hg; have := owns_lt h2 hg; rw [upd_other _ _ _ _ (by omega)]; exact h6 g hg
      · intro g hg; have := owns_lt h3 hg; rw [upd_other _ _ _ _ (by omega)]; exact h7 g hg
  · by_cases e : j = N
    · subst e; rw [upd_same] at hc; simp at hc
    · rw [upd_other _ _ _ _ e] at hc; have := h.ilt j (by omega) c hc; omega
  · by_cases e : j = N
    · subst e; rw [upd_same] at hp; simp at hp
    · rw [upd_other _ _ _ _ e] at hp; have := h.flt j (by omega) p hp; omega

theorem ncells_inj {k k' : Int} {a b a' b' : Value} (h : ncells k a b = ncells k' a' b') : k = k' ∧ a = a' ∧ b = b' := by
  simpa [ncells] using h

theorem heap_set_self {w : World} {b o : Nat} {cs : Array Value} {t : TypeId} (h : w.heap[b]? = some (.cells cs t (0, 0))) (v : Value) : (w.setCell ⟨b, o, none⟩ v).heap[b]? = some (.cells (cs.setIfInBounds o v) t (0, 0)) := by
  simp [World.setCell, Array.getElem?_modify, h]

/-- A child more among the Items of p. -/
theorem Fam.item (h : Fam w base N blk ob its fs tag) {p c : Nat} (hp : p < N) (hc : c < N) {iv fv : Value} (hn : w.heap[blk p]? = some (.cells (ncells (kind (ob p)) iv fv) 37 (0, 0)))
    {w0 w1 : World} (e0 : ∀ k, base ≤ k → k < w.heap.size → w0.heap[k]? = w.heap[k]?) (hs0 : w.heap.size ≤ w0.heap.size) (hg : w0.grownBy w1 iv.ownBlock) {g cap : Nat}
    (hown : w1.ownsRow base 27 1 (.slice (some ⟨g, 0, none⟩) ((its p).length + 1) cap) ((its p).length + 1) (ptrs ((its p).map blk) ++ [.pointer (some ⟨blk c, 0, none⟩)]))
    (hat : iv.ownBlock = some g ∨ w.heap.size ≤ g) :
    Fam (w1.setCell ⟨blk p, 9, none⟩ (.slice (some ⟨g, 0, none⟩) ((its p).length + 1) cap)) base N blk ob (upd its p (its p ++ [c])) fs (upd tag g (3 * p + 1)) := by
  have hother : ∀ k, base ≤ k → k < w.heap.size → iv.ownBlock ≠ some k → k ≠ blk p → (w1.setCell ⟨blk p, 9, none⟩ (.slice (some ⟨g, 0, none⟩) ((its p).length + 1) cap)).heap[k]? = w.heap[k]? := by
    intro k h1 h2 h3 h4
    rw [Below.heap_setCell _ _ _ _ h4, hg.block k (by omega) (Ne.symm h3), e0 k h1 h2]
  obtain ⟨iv', fv', p1, p2, p3, p4, p5, p6, p7⟩ := h.node p hp
  rw [hn] at p1
  have hinj : iv = iv' ∧ fv = fv' := by
    have := Option.some.inj p1
    have := ncells_inj (by simpa using this)
    exact ⟨this.2.1, this.2.2⟩
  obtain ⟨rfl, rfl⟩ := hinj
  clear p1
  have hgt : ∀ k, k < w.heap.size → tag k ≠ 3 * p + 1 → k ≠ g := by
    intro k h1 h2 e
    subst e
    rcases hat with hat | hat
    · exact h2 (p6 k hat)
    · omega
  have hiv : ∀ k, tag k ≠ 3 * p + 1 → iv.ownBlock ≠ some k := fun k h1 h2 => h1 (p6 k h2)
  have hlp := lt_of_blk hn
  have hgp : g ≠ blk p := Ne.symm (hgt _ hlp (by rw [p5]; omega))
  refine ⟨fun j hj => ?_, fun j hj d hd => ?_, h.flt⟩
  · by_cases e : j = p
    · subst e
      have hfold : ((upd its j (its j ++ [c]) j)).map blk = (its j).map blk ++ [blk c] := by rw [upd_same]; simp
      refine ⟨.slice (some ⟨g, 0, none⟩) ((its j).length + 1) cap, fv, ?_, ?_, ?_, p4, ?_, ?_, ?_⟩
      · have hw1 : w1.heap[blk j]? = some (.cells (ncells (kind (ob j)) iv fv) 37 (0, 0)) := by
          rw [hg.block _ (by omega) (Ne.symm (hiv _ (by rw [p5]; omega))), e0 _ p4 hlp]; exact hn
        rw [heap_set_self hw1]
        rfl
      · rw [upd_same, List.length_append, List.map_append]
        have : ptrs ((its j).map blk ++ [c].map blk) = ptrs ((its j).map blk) ++ [.pointer (some ⟨blk c, 0, none⟩)] := by simp [ptrs]
        rw [this]
        refine owns_same hown (fun k hk _ hl => Below.heap_setCell _ _ _ _ ?_)
        simp [Value.ownBlock] at hk; subst hk; exact hgp
      · refine owns_same p3 (fun k hk hb hl => hother k hb hl (hiv _ (by rw [p7 k hk]; omega)) (fun e => ?_))
        have := p7 k hk; rw [e, p5] at this; omega
      · rw [upd_other _ _ _ _ (Ne.symm hgp)]; exact p5
      · intro k hk; simp [Value.ownBlock] at hk; subst hk; rw [upd_same]
      · intro k hk
        have := p7 k hk
        rw [upd_other _ _ _ _ (hgt k (owns_lt p3 hk).2 (by omega))]; exact this
    · obtain ⟨ivj, fvj, q1, q2, q3, q4, q5, q6, q7⟩ := h.node j hj
      have hlj := lt_of_blk q1
      refine ⟨ivj, fvj, ?_, ?_, ?_, q4, ?_, ?_, ?_⟩
      · rw [hother _ q4 hlj (hiv _ (by rw [q5]; omega)) (fun e' => by have := q5; rw [e', p5] at this; omega)]; exact q1
      · rw [upd_other _ _ _ _ e]
        exact owns_same q2 (fun k hk hb hl => hother k hb hl (hiv _ (by rw [q6 k hk]; omega)) (fun e' => by have := q6 k hk; rw [e', p5] at this; omega))
      · exact owns_same q3 (fun k hk hb hl => hother k hb hl (hiv _ (by rw [q7 k hk]; omega)) (fun e' => by have := q7 k hk; rw [e', p5] at this; omega))
      · rw [upd_other _ _ _ _ (hgt _ hlj (by omega))]; exact q5
      · intro k hk
        have := q6 k hk
        rw [upd_other _ _ _ _ (hgt k (owns_lt q2 hk).2 (by omega))]; exact this
      · intro k hk
        have := q7 k hk
        rw [upd_other _ _ _ _ (hgt k (owns_lt q3 hk).2 (by omega))]; exact this
  · by_cases e : j = p
    · subst e
      rw [upd_same] at hd
      rcases List.mem_append.1 hd with hd | hd
      · exact h.ilt j hj d hd
      · simp at hd; omega
    · rw [upd_other _ _ _ _ e] at hd; exact h.ilt j hj d hd

/-- A child more among the Fields of p. -/
theorem Fam.field (h : Fam w base N blk ob its fs tag) {p c : Nat} (s : ByteArray) (hp : p < N) (hc : c < N) {iv fv : Value} (hn : w.heap[blk p]? = some (.cells (ncells (kind (ob p)) iv fv) 37 (0, 0)))
    {w0 w1 : World} (e0 : ∀ k, base ≤ k → k < w.heap.size → w0.heap[k]? = w.heap[k]?) (hs0 : w.heap.size ≤ w0.heap.size) (hg : w0.grownBy w1 fv.ownBlock) {g cap : Nat}
    (hown : w1.ownsRow base 39 5 (.slice (some ⟨g, 0, none⟩) ((fs p).length + 1) cap) ((fs p).length + 1) (fcells ((fs p).map fun p => (p.1, blk p.2)) ++ fcells [(s, blk c)]))
    (hat : fv.ownBlock = some g ∨ w.heap.size ≤ g) :
    Fam (w1.setCell ⟨blk p, 10, none⟩ (.slice (some ⟨g, 0, none⟩) ((fs p).length + 1) cap)) base N blk ob its (upd fs p (fs p ++ [(s, c)])) (upd tag g (3 * p + 2)) := by
  have hother : ∀ k, base ≤ k → k < w.heap.size → fv.ownBlock ≠ some k → k ≠ blk p → (w1.setCell ⟨blk p, 10, none⟩ (.slice (some ⟨g, 0, none⟩) ((fs p).length + 1) cap)).heap[k]? = w.heap[k]? := by
    intro k h1 h2 h3 h4
    rw [Below.heap_setCell _ _ _ _ h4, hg.block k (by omega) (Ne.symm h3), e0 k h1 h2]
  obtain ⟨iv', fv', p1, p2, p3, p4, p5, p6, p7⟩ := h.node p hp
  rw [hn] at p1
  have hinj : iv = iv' ∧ fv = fv' := by
    have := Option.some.inj p1
    have := ncells_inj (by simpa using this)
    exact ⟨this.2.1, this.2.2⟩
  obtain ⟨rfl, rfl⟩ := hinj
  clear p1
  have hgt : ∀ k, k < w.heap.size → tag k ≠ 3 * p + 2 → k ≠ g := by
    intro k h1 h2 e
    subst e
    rcases hat with hat | hat
    · exact h2 (p7 k hat)
    · omega
  have hfv : ∀ k, tag k ≠ 3 * p + 2 → fv.ownBlock ≠ some k := fun k h1 h2 => h1 (p7 k h2)
  have hlp := lt_of_blk hn
  have hgp : g ≠ blk p := Ne.symm (hgt _ hlp (by rw [p5]; omega))
  refine ⟨fun j hj => ?_, h.ilt, fun j hj d hd => ?_⟩
  · by_cases e : j = p
    · subst e
      refine ⟨iv, .slice (some ⟨g, 0, none⟩) ((fs j).length + 1) cap, ?_, ?_, ?_, p4, ?_, ?_, ?_⟩
      · have hw1 : w1.heap[blk j]? = some (.cells (ncells (kind (ob j)) iv fv) 37 (0, 0)) := by
          rw [hg.block _ (by omega) (Ne.symm (hfv _ (by rw [p5]; omega))), e0 _ p4 hlp]; exact hn
        rw [heap_set_self hw1]
        rfl
      · refine owns_same p2 (fun k hk hb hl => hother k hb hl (hfv _ (by rw [p6 k hk]; omega)) (fun e => ?_))
        have := p6 k hk; rw [e, p5] at this; omega
      · rw [upd_same, List.length_append, List.map_append, fcells_append]
        refine owns_same hown (fun k hk _ hl => Below.heap_setCell _ _ _ _ ?_)
        simp [Value.ownBlock] at hk; subst hk; exact hgp
      · rw [upd_other _ _ _ _ (Ne.symm hgp)]; exact p5
      · intro k hk
        have := p6 k hk
        rw [upd_other _ _ _ _ (hgt k (owns_lt p2 hk).2 (by omega))]; exact this
      · intro k hk; simp [Value.ownBlock] at hk; subst hk; rw [upd_same]
    · obtain ⟨ivj, fvj, q1, q2, q3, q4, q5, q6, q7⟩ := h.node j hj
      have hlj := lt_of_blk q1
      refine ⟨ivj, fvj, ?_, ?_, ?_, q4, ?_, ?_, ?_⟩
      · rw [hother _ q4 hlj (hfv _ (by rw [q5]; omega)) (fun e' => by have := q5; rw [e', p5] at this; omega)]; exact q1
      · exact owns_same q2 (fun k hk hb hl => hother k hb hl (hfv _ (by rw [q6 k hk]; omega)) (fun e' => by have := q6 k hk; rw [e', p5] at this; omega))
      · rw [upd_other _ _ _ _ e]
        exact owns_same q3 (fun k hk hb hl => hother k hb hl (hfv _ (by rw [q7 k hk]; omega)) (fun e' => by have := q7 k hk; rw [e', p5] at this; omega))
      · rw [upd_other _ _ _ _ (hgt _ hlj (by omega))]; exact q5
      · intro k hk
        have := q6 k hk
        rw [upd_other _ _ _ _ (hgt k (owns_lt q2 hk).2 (by omega))]; exact this
      · intro k hk
        have := q7 k hk
        rw [upd_other _ _ _ _ (hgt k (owns_lt q3 hk).2 (by omega))]; exact this
  · by_cases e : j = p
    · subst e
      rw [upd_same] at hd
      rcases List.mem_append.1 hd with hd | hd
      · exact h.flt j hj d hd
      · simp at hd; subst hd; exact hc
    · rw [upd_other _ _ _ _ e] at hd; exact h.flt j hj d hd
end

end Go.Proofs.Qxb6627519a
