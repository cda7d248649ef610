import Derived.Test.Qxb6627611aW2
namespace Go.Proofs.Qxb6627611a
open Go.RowKit

/-! ### Names as lists of bytes: the plain law -/
def bst (c : UInt8) : Bool := st (c.toNat : Int)
def bpt (c : UInt8) : Bool := pt (c.toNat : Int)
def isL : List UInt8 → Bool
  | [] => false
  | c :: r => bst c && r.all bpt

theorem bpt_of_bst {c : UInt8} (h : bst c = true) : bpt c = true := by unfold bpt pt; unfold bst at h; rw [h]; rfl

theorem get_list (s : ByteArray) (j : Nat) (h : j < s.size) (h' : j < s.data.toList.length) : s.data.toList[j]'h' = s[j]'h := by
  simp; rfl

theorem len_list (s : ByteArray) : s.data.toList.length = s.size := Array.length_toList

theorem isN_eq (s : ByteArray) : isN s = isL s.data.toList := by
  have hlen := len_list s
  rw [Bool.eq_iff_iff]
  unfold isN
  rw [Bool.and_eq_true, decide_eq_true_eq]
  unfold okFrom
  rw [decide_eq_true_eq]
  cases hl : s.data.toList with
  | nil =>
    have h0 : s.size = 0 := by rw [← hlen, hl]; rfl
    constructor
    · rintro ⟨⟨h, _⟩, _⟩; omega
    · intro h; simp [isL] at h
  | cons c r =>
    have hs : s.size = r.length + 1 := by rw [← hlen, hl]; rfl
    have g0 : ∀ h : 0 < s.size, s[0]'h = c := fun h => by
      have := get_list s 0 h (by rw [hl]; simp)
      rw [← this]; simp [hl]
    have gj : ∀ j (h : j + 1 < s.size) (h' : j < r.length), s[j + 1]'h = r[j]'h' := fun j h h' => by
      have := get_list s (j + 1) h (by rw [hl]; simp; omega)
      rw [← this]; simp [hl]
    simp only [isL, Bool.and_eq_true, List.all_eq_true]
    constructor
    · rintro ⟨⟨h, h1⟩, h2⟩
      rw [g0 h] at h1
      refine ⟨h1, fun x hx => ?_⟩
      obtain ⟨j, hj, rfl⟩ := List.mem_iff_getElem.1 hx
      have := h2 (j + 1) (by omega) (by omega) (by omega)
      rw [gj j (by omega) hj] at this
      exact this
    · rintro ⟨h1, h2⟩
      refine ⟨⟨by omega, by rw [g0]; exact h1⟩, fun j hj h3 _ => ?_⟩
      obtain ⟨i, rfl⟩ : ∃ i, j = i + 1 := ⟨j - 1, by omega⟩
      rw [gj i hj (by omega)]
      exact h2 _ (List.getElem_mem _)

theorem isL_under (l : List UInt8) : isL (95 :: l) = l.all bpt := by
  show (bst 95 && l.all bpt) = _
  have : bst 95 = true := by decide
  rw [this]; rfl

theorem isL_cut (l : List UInt8) (i : Nat) (h1 : 1 ≤ i) (h2 : i ≤ l.length) : isL l = (isL (l.take i) && isL (95 :: l.drop i)) := by
  rw [isL_under]
  cases l with
  | nil => simp at h2; omega
  | cons c r =>
    obtain ⟨k, rfl⟩ : ∃ k, i = k + 1 := ⟨i - 1, by omega⟩
    simp only [List.take_succ_cons, List.drop_succ_cons, isL]
    have : r.all bpt = ((r.take k).all bpt && (r.drop k).all bpt) := by
      conv => lhs; rw [← List.take_append_drop k r, List.all_append]
    rw [this, Bool.and_assoc]

theorem isL_insert (l : List UInt8) (c : UInt8) (p : Nat) (h1 : 1 ≤ p) (h2 : p ≤ l.length) : isL (l.take p ++ [c] ++ l.drop p) = (isL l && isL [95, c]) := by
  rw [isL_under]
  cases l with
  | nil => simp at h2; omega
  | cons d r =>
    obtain ⟨k, rfl⟩ : ∃ k, p = k + 1 := ⟨p - 1, by omega⟩
    simp only [List.take_succ_cons, List.drop_succ_cons, List.cons_append, isL, List.all_append, List.all_cons, List.all_nil, Bool.and_true]
    have : r.all bpt = ((r.take k).all bpt && (r.drop k).all bpt) := by
      conv => lhs; rw [← List.take_append_drop k r, List.all_append]
    rw [this]
    cases bst d <;> cases bpt c <;> cases (r.take k).all bpt <;> cases (r.drop k).all bpt <;> rfl

theorem isL_first (l : List UInt8) (c : UInt8) : isL (c :: l) = (isL [c] && isL (95 :: l)) := by
  rw [isL_under]; simp only [isL, List.all_nil, Bool.and_true]

theorem num_toNat {x : Int} (h : 0 ≤ x ∧ x ≤ 255) : ((UInt8.ofNat x.toNat).toNat : Int) = x := by
  have : x.toNat < 256 := by omega
  rw [UInt8.toNat_ofNat_of_lt' this]; omega

theorem digits_part {xs : List Int} (h : ∀ x, x ∈ xs → 48 ≤ x ∧ x ≤ 57) : (strOfNums xs).data.toList.all bpt = true := by
  rw [strOfNums_data, List.all_eq_true]
  intro c hc
  obtain ⟨x, hx, rfl⟩ := List.mem_map.1 hc
  have := h x hx
  unfold bpt
  rw [num_toNat (by omega)]
  exact pt_dig this

theorem digits_start {xs : List Int} (h1 : 1 ≤ xs.length) (h : ∀ x, x ∈ xs → 48 ≤ x ∧ x ≤ 57) (r : List UInt8) : isL ((strOfNums xs).data.toList ++ r) = false := by
  rw [strOfNums_data]
  cases xs with
  | nil => simp at h1
  | cons x xs =>
    have := h x (by simp)
    simp only [List.map_cons, List.cons_append, isL]
    have hb : bst (UInt8.ofNat x.toNat) = false := by unfold bst; rw [num_toNat (by omega)]; exact (st_f (by omega)).symm
    rw [hb]; rfl

theorem data_append (a b : ByteArray) : (a ++ b).data.toList = a.data.toList ++ b.data.toList := by
  rw [ByteArray.data_append, Array.toList_append]
theorem data_head (s : ByteArray) (i : Nat) : (s.extract 0 i).data.toList = s.data.toList.take i := by simp [ByteArray.data_extract]
theorem data_tail (s : ByteArray) (i : Nat) : (s.extract i s.size).data.toList = s.data.toList.drop i := by
  rw [ByteArray.data_extract, Array.toList_extract, List.extract_eq_take_drop, List.take_of_length_le]
  rw [List.length_drop, len_list]
  exact Nat.le_refl _

/-! ### The facts as the walks want them -/
theorem hex_name {ys : List Int} (h : ∀ y, y ∈ ys → 0 ≤ y ∧ y ≤ 255 ∧ pt y = true) : isN (strOfNums (120 :: ys)) = true := by
  rw [isN_eq, strOfNums_data]
  simp only [List.map_cons, isL]
  have h0 : bst (UInt8.ofNat (120 : Int).toNat) = true := by decide
  rw [h0, Bool.true_and, List.all_eq_true]
  intro c hc
  obtain ⟨y, hy, rfl⟩ := List.mem_map.1 hc
  have := h y hy
  unfold bpt
  rw [num_toNat (by omega)]
  exact this.2.2

theorem dec_not {xs : List Int} (h1 : 1 ≤ xs.length) (h : ∀ x, x ∈ xs → 48 ≤ x ∧ x ≤ 57) (s : ByteArray) : isN (strOfNums xs ++ s) = false := by
  rw [isN_eq, data_append]; exact digits_start h1 h _

theorem dec_not2 {xs : List Int} (h1 : 1 ≤ xs.length) (h : ∀ x, x ∈ xs → 48 ≤ x ∧ x ≤ 57) (o s : ByteArray) : isN (strOfNums xs ++ o ++ s) = false := by
  rw [isN_eq, data_append, data_append, List.append_assoc]; exact digits_start h1 h _

theorem dec_under {xs : List Int} (h : ∀ x, x ∈ xs → 48 ≤ x ∧ x ≤ 57) : isN ((⟨#[95]⟩ : ByteArray) ++ strOfNums xs) = true := by
  rw [isN_eq, data_append]
  show isL (95 :: (strOfNums xs).data.toList) = true
  rw [isL_under]; exact digits_part h

theorem cut_law (s : ByteArray) (i : Nat) (h1 : 1 ≤ i) (h2 : i ≤ s.size) : isN s = (isN (s.extract 0 i) && isN ((⟨#[95]⟩ : ByteArray) ++ s.extract i s.size)) := by
  rw [isN_eq, isN_eq, isN_eq, data_append, data_head, data_tail]
  show _ = (isL (s.data.toList.take i) && isL (95 :: s.data.toList.drop i))
  exact isL_cut _ i h1 (by rw [len_list]; exact h2)

theorem ins_law0 (s o : ByteArray) (c : UInt8) (ho : o.data.toList = [c]) : isN (s.extract 0 0 ++ o ++ s.extract 0 s.size) = (isN o && isN ((⟨#[95]⟩ : ByteArray) ++ s)) := by
  rw [isN_eq, isN_eq, isN_eq, data_append, data_append, data_append, data_head, data_tail, ho]
  show isL (c :: s.data.toList.drop 0) = (isL [c] && isL (95 :: s.data.toList))
  rw [List.drop_zero]; exact isL_first _ _

theorem ins_law (s o : ByteArray) (c : UInt8) (p : Nat) (ho : o.data.toList = [c]) (h1 : 1 ≤ p) (h2 : p ≤ s.size) : isN (s.extract 0 p ++ o ++ s.extract p s.size) = (isN s && isN ((⟨#[95]⟩ : ByteArray) ++ o)) := by
  rw [isN_eq, isN_eq, isN_eq, data_append, data_append, data_append, data_head, data_tail, ho]
  show _ = (isL s.data.toList && isL [95, c])
  exact isL_insert _ c p h1 (by rw [len_list]; exact h2)

end Go.Proofs.Qxb6627611a
