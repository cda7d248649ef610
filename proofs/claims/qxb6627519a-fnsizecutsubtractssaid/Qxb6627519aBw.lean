import Derived.Test.Qxb6627519aW2
import Derived.Test.Qxb6627519aFam
import Derived.Deep.AppendLies
import Derived.Deep.RegionHeld3
import Derived.Deep.DrawnRows
namespace Go.Proofs.Qxb6627519a
open Go.RowKit

theorem info27 : (Try.prog.info? 27).map (fun i => (i.zero, i.size, i.bytes)) = some (some (.pointer none), 1, 8) := by kernel_rfl
theorem info39 : (Try.prog.info? 39).map (fun i => (i.zero, i.size, i.bytes)) = some (some (.agg #[.string ByteArray.empty, .int .i64 0, .int .i64 0, .int .i64 0, .pointer none]), 5, 48) := by kernel_rfl

def obs (r : Bool) (O : Nat → Bool) : Nat → Bool
  | 0 => r
  | j + 1 => O j
def par (P : Nat → Int) (i : Nat) : Nat := (P i).toNat

/-- The children of the nodes, as the tree stands behind m rounds. -/
def Kids (P : Nat → Int) (ob : Nat → Bool) (m : Nat) (its : Nat → List Nat) (fs : Nat → List (ByteArray × Nat)) : Prop :=
  ∀ j, j ≤ m → its j = (if ob j then [] else Pl.ch (par P) j m) ∧ (fs j).map Prod.snd = (if ob j then Pl.ch (par P) j m else [])

theorem new_op (o : Bool) (w : World) :
    Calls Try.prog 10 #[.bool o] w fun e w' => e = .returned (.pointer (some ⟨w.heap.size, 0, none⟩)) ∧ Hid (w' = w.alloc (.cells (ncells (kind o) (.slice none 0 0) (.slice none 0 0)) 37)) := new_any o w

/-! ### Worlds, apart from the walk -/
theorem wrap_small (x : Int) (h0 : 0 ≤ x) (h1 : x ≤ 9223372036854775807) : IntKind.i64.wrap x = x := by
  rw [IntKind.wrap_i64]; omega
theorem hid {p : Prop} (h : p) : Hid p := h
theorem size_set (w : World) (a : Addr) (v : Value) : (w.setCell a v).heap.size = w.heap.size := by simp [World.setCell]
theorem alloc_at {w : World} {B : Nat} (o : Obj) (h : w.heap.size = B) : (w.alloc o).heap[B]? = some o := by subst h; exact heap_alloc_new _ _
theorem ch_none {pr : Nat → Nat} {j : Nat} : ∀ (m : Nat), (∀ i, i < m → pr i ≠ j) → Pl.ch pr j m = []
  | 0, _ => rfl
  | m + 1, h => by
    simp only [Pl.ch]
    rw [if_neg (h m (by omega))]
    exact ch_none m (fun i hi => h i (by omega))

def rowV (blk : Nat → Nat) (k : Nat) : Nat → Value := fun j => if j ≤ k then .pointer (some ⟨blk j, 0, none⟩) else .pointer none

def BRel (w wr : World) (n : Nat) (P : Nat → Int) (ob : Nat → Bool) (k : Nat) : Prop :=
  ∃ blk its fs tag, wr.rowIs w.heap.size 27 (n + 1) (rowV blk k) ∧ Fam wr (w.heap.size + 1) (k + 1) blk ob its fs tag ∧ Kids P ob k its fs ∧ Below w.heap.size w wr

theorem build_start (w w1 : World) (n : Nat) (P : Nat → Int) (r : Bool) (O : Nat → Bool)
    (h : w1 = (w.alloc (.cells (madeCells #[Value.pointer none] (n + 1)) 27)).alloc (.cells (ncells (kind r) (.slice none 0 0) (.slice none 0 0)) 37)) :
    BRel w (w1.setCell ⟨w.heap.size, 0, none⟩ (.pointer (some ⟨w.heap.size + 1, 0, none⟩))) n P (obs r O) 0 := by
  have hr0 : (w.alloc (.cells (madeCells #[Value.pointer none] (n + 1)) 27)).rowIs w.heap.size 27 (n + 1) (fun _ => .pointer none) := World.rowIs_made w (.pointer none) (n + 1) 27
  have hb0 : Below w.heap.size w (w.alloc (.cells (madeCells #[Value.pointer none] (n + 1)) 27)) := (Below.refl _ _).alloc (Nat.le_refl _) _
  have hs0 : (w.alloc (.cells (madeCells #[Value.pointer none] (n + 1)) 27)).heap.size = w.heap.size + 1 := by simp
  generalize w.alloc (.cells (madeCells #[Value.pointer none] (n + 1)) 27) = w0 at *
  have F0 : Fam w0 (w.heap.size + 1) 0 (fun _ => 0) (obs r O) (fun _ => []) (fun _ => []) (fun _ => 0) := ⟨fun j hj => by omega, fun j hj => by omega, fun j hj => by omega⟩
  have F1 := F0.push (by omega)
  have hob : obs r O 0 = r := rfl
  rw [hob] at F1
  rw [← h] at F1
  have hr1 : w1.rowIs w.heap.size 27 (n + 1) (fun _ => .pointer none) := by rw [h]; exact hr0.alloc _
  have hb1 : Below w.heap.size w w1 := by rw [h]; exact hb0.alloc (by omega) _
  refine ⟨_, _, _, _, ?_, F1.same (fun k h1 h2 => Below.heap_setCell _ _ _ _ (by simp; omega)), ?_, hb1.setCell (Nat.le_refl _) _⟩
  · refine (hr1.set 0 _).congr fun j hj => ?_
    unfold rowV
    by_cases e : j = 0
    · subst e; simp [upd, hs0]
    · rw [if_neg e, if_neg (by omega)]
  · intro j hj
    have : j = 0 := by omega
    subst this
    rw [upd_same, upd_same]
    constructor <;> · split <;> rfl

/-- A round, the parent an array. -/
theorem build_item (w wr w1 w3 : World) (n k : Nat) (P : Nat → Int) (ob : Nat → Bool) (hP : ∀ i, i < n → 0 ≤ P i ∧ P i ≤ i) (hk : k < n)
    (blk : Nat → Nat) (its : Nat → List Nat) (fs : Nat → List (ByteArray × Nat)) (tag : Nat → Nat)
    (hrow : wr.rowIs w.heap.size 27 (n + 1) (rowV blk k)) (hF : Fam wr (w.heap.size + 1) (k + 1) blk ob its fs tag) (hK : Kids P ob k its fs) (hB : Below w.heap.size w wr) (hsz : w.heap.size < wr.heap.size)
    (h1 : w1 = wr.alloc (.cells (ncells (kind (ob (k + 1))) (.slice none 0 0) (.slice none 0 0)) 37))
    (iv fv : Value) (hn : wr.heap[blk (par P k)]? = some (.cells (ncells (kind (ob (par P k))) iv fv) 37 (0, 0))) (hob : ob (par P k) = false)
    (g cap : Nat) (hg : ((w1.setCell ⟨w.heap.size, k + 1, none⟩ (.pointer (some ⟨wr.heap.size, 0, none⟩))).alloc (.cells #[.pointer (some ⟨wr.heap.size, 0, none⟩)] 27)).grownBy w3 iv.ownBlock)
    (hown : w3.ownsRow (w.heap.size + 1) 27 1 (.slice (some ⟨g, 0, none⟩) ((its (par P k)).length + 1) cap) ((its (par P k)).length + 1) (ptrs ((its (par P k)).map blk) ++ [.pointer (some ⟨wr.heap.size, 0, none⟩)]))
    (hat : iv.ownBlock = some g ∨ g = wr.heap.size + 2) :
    BRel w (w3.setCell ⟨blk (par P k), 9, none⟩ (.slice (some ⟨g, 0, none⟩) ((its (par P k)).length + 1) cap)) n P ob (k + 1) := by
  have hp : par P k ≤ k := by have := hP k hk; unfold par; omega
  have F1 := hF.push (by omega)
  rw [← h1] at F1
  have hs1 : w1.heap.size = wr.heap.size + 1 := by rw [h1]; simp
  have hne : par P k ≠ k + 1 := by omega
  have hits : upd its (k + 1) [] (par P k) = its (par P k) := upd_other _ _ _ _ hne
  have hbl : upd blk (k + 1) wr.heap.size (par P k) = blk (par P k) := upd_other _ _ _ _ hne
  have hmap : ((upd its (k + 1) []) (par P k)).map (upd blk (k + 1) wr.heap.size) = (its (par P k)).map blk := by
    rw [hits]
    refine List.map_congr_left fun c hc => upd_other _ _ _ _ ?_
    have := hF.ilt (par P k) (by omega) c hc; omega
  have hblk1 : (w1.setCell ⟨w.heap.size, k + 1, none⟩ (.pointer (some ⟨wr.heap.size, 0, none⟩))).heap.size = w1.heap.size := by simp [World.setCell]
  have F2 := F1.item (p := par P k) (c := k + 1) (by omega) (by omega) (iv := iv) (fv := fv)
    (by rw [hbl, h1, Below.heap_alloc _ _ _ (lt_of_blk hn)]; exact hn)
    (w0 := (w1.setCell ⟨w.heap.size, k + 1, none⟩ (.pointer (some ⟨wr.heap.size, 0, none⟩))).alloc (.cells #[.pointer (some ⟨wr.heap.size, 0, none⟩)] 27)) (w1 := w3)
    (fun q h2 h3 => by rw [Below.heap_alloc _ _ _ (by rw [hblk1]; exact h3), Below.heap_setCell _ _ _ _ (by simp; omega)])
    (by rw [← hblk1]; simp) hg (g := g) (cap := cap)
    (by rw [hmap, hits, upd_same]; exact hown) (by rcases hat with h | h; exact .inl h; exact .inr (by omega))
  rw [hbl, hits] at F2
  have hnB : iv.ownBlock ≠ some w.heap.size := by
    intro e
    obtain ⟨iv', fv', q1, q2, _⟩ := hF.node (par P k) (by omega)
    rw [hn] at q1
    have := (ncells_inj (by simpa using Option.some.inj q1)).2.1
    subst this
    have := (owns_lt q2 e).1
    omega
  have hbp : w.heap.size + 1 ≤ blk (par P k) := by
    obtain ⟨_, _, _, _, _, q4, _⟩ := hF.node (par P k) (by omega)
    exact q4
  refine ⟨_, _, _, _, ?_, F2, ?_, ?_⟩
  · have r1 : w1.rowIs w.heap.size 27 (n + 1) (rowV blk k) := by rw [h1]; exact hrow.alloc _
    have r2 := (r1.set (k + 1) (.pointer (some ⟨wr.heap.size, 0, none⟩))).alloc (.cells #[.pointer (some ⟨wr.heap.size, 0, none⟩)] 27)
    have r3 := r2.of_block (hg.block _ r2.lt (Ne.symm hnB))
    refine (r3.setOther (by simp; omega) _).congr fun j hj => ?_
    unfold rowV
    by_cases e : j = k + 1
    · subst e; simp [upd]
    · rw [if_neg e]
      by_cases e2 : j ≤ k
      · rw [if_pos e2, if_pos (by omega), upd_other _ _ _ _ e]
      · rw [if_neg e2, if_neg (by omega)]
  · intro j hj
    by_cases e : j = k + 1
    · subst e
      rw [upd_other _ _ _ _ (Ne.symm hne), upd_same, upd_same]
      rw [ch_none (k + 1) (fun i hi => by have := hP i (by omega); unfold par; omega)]
      constructor <;> · split <;> rfl
    · have hKj := hK j (by omega)
      by_cases e2 : j = par P k
      · subst e2
        rw [upd_same, upd_other _ _ _ _ e]
        simp only [Pl.ch, if_true]
        rw [hob] at hKj ⊢
        refine ⟨?_, hKj.2⟩
        rw [hKj.1]
        rfl
      · rw [upd_other _ _ _ _ e2, upd_other _ _ _ _ e, upd_other _ _ _ _ e]
        simp only [Pl.ch]
        rw [if_neg (Ne.symm e2)]
        exact hKj
  · refine Below.setCell ?_ (by show w.heap.size ≤ blk (par P k); omega) _
    have b1 : Below w.heap.size w w1 := by rw [h1]; exact hB.alloc (by omega) _
    refine ((b1.setCell (p := ⟨w.heap.size, k + 1, none⟩) (Nat.le_refl _) _).alloc (by rw [hblk1]; omega) _).grown hg (by simp; omega) ?_
    intro q hq
    obtain ⟨iv', fv', q1, q2, _⟩ := hF.node (par P k) (by omega)
    rw [hn] at q1
    have := (ncells_inj (by simpa using Option.some.inj q1)).2.1
    subst this
    have := (owns_lt q2 hq).1
    omega

/-- A round, the parent an object. -/
theorem build_field (w wr w1 w2 w3 : World) (n k : Nat) (P : Nat → Int) (ob : Nat → Bool) (hP : ∀ i, i < n → 0 ≤ P i ∧ P i ≤ i) (hk : k < n)
    (blk : Nat → Nat) (its : Nat → List Nat) (fs : Nat → List (ByteArray × Nat)) (tag : Nat → Nat)
    (hrow : wr.rowIs w.heap.size 27 (n + 1) (rowV blk k)) (hF : Fam wr (w.heap.size + 1) (k + 1) blk ob its fs tag) (hK : Kids P ob k its fs) (hB : Below w.heap.size w wr) (hsz : w.heap.size < wr.heap.size)
    (h1 : w1 = wr.alloc (.cells (ncells (kind (ob (k + 1))) (.slice none 0 0) (.slice none 0 0)) 37))
    (iv fv : Value) (hn : wr.heap[blk (par P k)]? = some (.cells (ncells (kind (ob (par P k))) iv fv) 37 (0, 0))) (hob : ob (par P k) = true)
    (hw2 : Below (wr.heap.size + 1) (w1.setCell ⟨w.heap.size, k + 1, none⟩ (.pointer (some ⟨wr.heap.size, 0, none⟩))) w2)
    (s : ByteArray) (g cap : Nat) (hg : w2.grownBy w3 fv.ownBlock)
    (hown : w3.ownsRow (w.heap.size + 1) 39 5 (.slice (some ⟨g, 0, none⟩) ((fs (par P k)).length + 1) cap) ((fs (par P k)).length + 1) (fcells ((fs (par P k)).map fun p => (p.1, blk p.2)) ++ fcells [(s, wr.heap.size)]))
    (hat : fv.ownBlock = some g ∨ wr.heap.size + 1 ≤ g) :
    BRel w (w3.setCell ⟨blk (par P k), 10, none⟩ (.slice (some ⟨g, 0, none⟩) ((fs (par P k)).length + 1) cap)) n P ob (k + 1) := by
  have hp : par P k ≤ k := by have := hP k hk; unfold par; omega
  have F1 := hF.push (by omega)
  rw [← h1] at F1
  have hs1 : w1.heap.size = wr.heap.size + 1 := by rw [h1]; simp
  have hne : par P k ≠ k + 1 := by omega
  have hfs : upd fs (k + 1) [] (par P k) = fs (par P k) := upd_other _ _ _ _ hne
  have hbl : upd blk (k + 1) wr.heap.size (par P k) = blk (par P k) := upd_other _ _ _ _ hne
  have hmap : ((upd fs (k + 1) []) (par P k)).map (fun p => (p.1, upd blk (k + 1) wr.heap.size p.2)) = (fs (par P k)).map fun p => (p.1, blk p.2) := by
    rw [hfs]
    refine List.map_congr_left fun c hc => ?_
    rw [upd_other]
    have := hF.flt (par P k) (by omega) c hc; omega
  have hblk1 : (w1.setCell ⟨w.heap.size, k + 1, none⟩ (.pointer (some ⟨wr.heap.size, 0, none⟩))).heap.size = w1.heap.size := by simp [World.setCell]
  have F2 := F1.field (p := par P k) (c := k + 1) s (by omega) (by omega) (iv := iv) (fv := fv)
    (by rw [hbl, h1, Below.heap_alloc _ _ _ (lt_of_blk hn)]; exact hn)
    (w0 := w2) (w1 := w3)
    (fun q h2 h3 => by rw [hw2.block q (by omega), Below.heap_setCell _ _ _ _ (by simp; omega)])
    (by have := hw2.size; rw [hblk1] at this; exact this) hg (g := g) (cap := cap)
    (by rw [hmap, hfs, upd_same]; exact hown) (by rcases hat with h | h; exact .inl h; exact .inr (by omega))
  rw [hbl, hfs] at F2
  have hnB : fv.ownBlock ≠ some w.heap.size := by
    intro e
    obtain ⟨iv', fv', q1, _, q2, _⟩ := hF.node (par P k) (by omega)
    rw [hn] at q1
    have := (ncells_inj (by simpa using Option.some.inj q1)).2.2
    subst this
    have := (owns_lt q2 e).1
    omega
  have hbp : w.heap.size + 1 ≤ blk (par P k) := by
    obtain ⟨_, _, _, _, _, q4, _⟩ := hF.node (par P k) (by omega)
    exact q4
  refine ⟨_, _, _, _, ?_, F2, ?_, ?_⟩
  · have r1 : w1.rowIs w.heap.size 27 (n + 1) (rowV blk k) := by rw [h1]; exact hrow.alloc _
    have r2 := (r1.set (k + 1) (.pointer (some ⟨wr.heap.size, 0, none⟩)))
    have r2' := r2.of_block (hw2.block _ (by omega))
    have r3 := r2'.of_block (hg.block _ r2'.lt (Ne.symm hnB))
    refine (r3.setOther (by simp; omega) _).congr fun j hj => ?_
    unfold rowV
    by_cases e : j = k + 1
    · subst e; simp [upd]
    · rw [if_neg e]
      by_cases e2 : j ≤ k
      · rw [if_pos e2, if_pos (by omega), upd_other _ _ _ _ e]
      · rw [if_neg e2, if_neg (by omega)]
  · intro j hj
    by_cases e : j = k + 1
    · subst e
      rw [upd_other _ _ _ _ (Ne.symm hne), upd_same, upd_same]
      rw [ch_none (k + 1) (fun i hi => by have := hP i (by omega); unfold par; omega)]
      constructor <;> · split <;> rfl
    · have hKj := hK j (by omega)
      by_cases e2 : j = par P k
      · subst e2
        rw [upd_same, upd_other _ _ _ _ e]
        simp only [Pl.ch, if_true]
        rw [hob] at hKj ⊢
        refine ⟨hKj.1, ?_⟩
        rw [List.map_append, hKj.2]
        rfl
      · rw [upd_other _ _ _ _ e2, upd_other _ _ _ _ e, upd_other _ _ _ _ e]
        simp only [Pl.ch]
        rw [if_neg (Ne.symm e2)]
        exact hKj
  · refine Below.setCell ?_ (by show w.heap.size ≤ blk (par P k); omega) _
    have b1 : Below w.heap.size w w1 := by rw [h1]; exact hB.alloc (by omega) _
    refine ((b1.setCell (p := ⟨w.heap.size, k + 1, none⟩) (Nat.le_refl _) _).trans (hw2.mono (by omega))).grown hg (by have := hw2.size; omega) ?_
    intro q hq
    obtain ⟨iv', fv', q1, _, q2, _⟩ := hF.node (par P k) (by omega)
    rw [hn] at q1
    have := (ncells_inj (by simpa using Option.some.inj q1)).2.2
    subst this
    have := (owns_lt q2 hq).1
    omega

end Go.Proofs.Qxb6627519a
