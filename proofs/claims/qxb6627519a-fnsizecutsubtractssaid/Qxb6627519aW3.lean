import Derived.Test.Qxb6627519aW1
import Derived.Test.Qxb6627519aPlain
import Derived.Laws.OwnMore
namespace Go.Proofs.Qxb6627519a
open Go.RowKit

/-! ### A node in memory -/
def ptrs (l : List Nat) : List Value := l.map fun b => .pointer (some ⟨b, 0, none⟩)
def fcells : List (ByteArray × Nat) → List Value
  | [] => []
  | p :: l => .string p.1 :: .int .i64 0 :: .int .i64 1 :: .int .i64 1 :: .pointer (some ⟨p.2, 0, none⟩) :: fcells l

theorem fcells_append (l m : List (ByteArray × Nat)) : fcells (l ++ m) = fcells l ++ fcells m := by
  induction l with
  | nil => rfl
  | cons p l ih => simp only [List.cons_append, fcells, ih]

theorem length_fcells (l : List (ByteArray × Nat)) : (fcells l).length = l.length * 5 := by
  induction l with
  | nil => rfl
  | cons p l ih => simp only [fcells, List.length_cons, ih]; omega

theorem fcells_at (l : List (ByteArray × Nat)) : ∀ (i : Nat) (p : ByteArray × Nat), l[i]? = some p →
    (fcells l)[i * 5]? = some (.string p.1) ∧ (fcells l)[i * 5 + 1]? = some (.int .i64 0) ∧ (fcells l)[i * 5 + 2]? = some (.int .i64 1) ∧ (fcells l)[i * 5 + 3]? = some (.int .i64 1) ∧
    (fcells l)[i * 5 + 4]? = some (.pointer (some ⟨p.2, 0, none⟩)) := by
  induction l with
  | nil => intro i p h; simp at h
  | cons q l ih =>
    intro i p h
    cases i with
    | zero => simp at h; subst h; simp [fcells]
    | succ i =>
      simp at h
      have := ih i p h
      have e : (i + 1) * 5 = i * 5 + 1 + 1 + 1 + 1 + 1 := by omega
      simp only [fcells, e]
      simp only [List.getElem?_cons_succ]
      exact this

def NodeRd (w : World) (b : Nat) (ib : List Nat) (fb : List (ByteArray × Nat)) : Prop :=
  ∃ k iv fv, w.heap[b]? = some (.cells (ncells k iv fv) 37 (0, 0)) ∧ w.ownsRow 0 27 1 iv ib.length (ptrs ib) ∧ w.ownsRow 0 39 5 fv fb.length (fcells fb)

/-- What a row that is owned gives to a reader: the slice's form, and its cells. -/
theorem owns_read {w : World} {base e sz : Nat} {v : Value} {n : Nat} {xs : List Value} (h : w.ownsRow base e sz v n xs) :
    ∃ ad cap, v = .slice ad n cap ∧ (ad.isSome = true → ∃ g, ad = some ⟨g, 0, none⟩ ∧ g < w.heap.size) ∧ ∀ j u, xs[j]? = some u → ∃ g, ad = some ⟨g, 0, none⟩ ∧ w.cell? ⟨g, j, none⟩ = some u := by
  rcases h.2 with ⟨rfl, rfl⟩ | ⟨g, cap, cur, rfl, _, hg, _, _, _, hx⟩
  · refine ⟨none, 0, rfl, fun h => by simp at h, fun j u hu => ?_⟩
    have := h.1
    simp at this
    rw [this] at hu; simp at hu
  · refine ⟨_, cap, rfl, fun _ => ⟨g, rfl, ?_⟩, fun j u hu => ⟨g, rfl, ?_⟩⟩
    · rcases Nat.lt_or_ge g w.heap.size with hlt | hge
      · exact hlt
      · rw [Array.getElem?_eq_none hge] at hg; cases hg
    · have hj : j < n * sz := by
        have := (List.getElem?_eq_some_iff.1 hu).1
        rw [h.1] at this; exact this
      rw [h.cellAt j hj]
      exact hu

theorem owns_below {B : Nat} {w w' : World} {base e sz : Nat} {v : Value} {n : Nat} {xs : List Value} (h : w.ownsRow base e sz v n xs) (hb : Below B w w') (hB : w.heap.size ≤ B) : w'.ownsRow base e sz v n xs := by
  refine ⟨h.1, ?_⟩
  rcases h.2 with h2 | ⟨g, cap, cur, hv, h1, hg, r⟩
  · exact .inl h2
  · have hlt : g < w.heap.size := by
      rcases Nat.lt_or_ge g w.heap.size with hlt | hge
      · exact hlt
      · rw [Array.getElem?_eq_none hge] at hg; cases hg
    exact .inr ⟨g, cap, cur, hv, h1, by rw [hb.block g (by omega)]; exact hg, r⟩

theorem NodeRd.below {B : Nat} {w w' : World} {b : Nat} {ib : List Nat} {fb : List (ByteArray × Nat)} (h : NodeRd w b ib fb) (hb : Below B w w') (hB : w.heap.size ≤ B) : NodeRd w' b ib fb := by
  obtain ⟨k, iv, fv, h1, h2, h3⟩ := h
  have hlt : b < w.heap.size := by
    rcases Nat.lt_or_ge b w.heap.size with hlt | hge
    · exact hlt
    · rw [Array.getElem?_eq_none hge] at h1; cases h1
  exact ⟨k, iv, fv, by rw [hb.block b (by omega)]; exact h1, owns_below h2 hb hB, owns_below h3 hb hB⟩

theorem cell_node {w : World} {b : Nat} {k : Int} {iv fv : Value} (h : w.heap[b]? = some (.cells (ncells k iv fv) 37 (0, 0))) :
    w.cell? ⟨b, 0, none⟩ = some (.int .i64 k) ∧ w.cell? ⟨b, 9, none⟩ = some iv ∧ w.cell? ⟨b, 10, none⟩ = some fv ∧ (∀ j, w.frozen? ⟨b, j, none⟩ = false) ∧ b < w.heap.size := by
  refine ⟨by simp [World.cell?, h, ncells], by simp [World.cell?, h, ncells], by simp [World.cell?, h, ncells], fun j => by simp [World.frozen?, h], ?_⟩
  rcases Nat.lt_or_ge b w.heap.size with hlt | hge
  · exact hlt
  · rw [Array.getElem?_eq_none hge] at h; cases h

/-! ### Size -/
def Rd (w : World) (M : Nat → Prop) (blk : Nat → Nat) (its : Nat → List Nat) (fs : Nat → List (ByteArray × Nat)) : Prop :=
  ∀ j, M j → NodeRd w (blk j) ((its j).map blk) ((fs j).map fun p => (p.1, blk p.2))

theorem Rd.below {B : Nat} {w w' : World} {M : Nat → Prop} {blk : Nat → Nat} {its : Nat → List Nat} {fs : Nat → List (ByteArray × Nat)} (h : Rd w M blk its fs) (hb : Below B w w') (hB : w.heap.size ≤ B) : Rd w' M blk its fs :=
  fun j hj => (h j hj).below hb hB

theorem lsum_take_succ (f : Nat → Nat) (l : List Nat) (k c : Nat) (h : l[k]? = some c) : Pl.lsum f (l.take (k + 1)) = Pl.lsum f (l.take k) + f c := by
  obtain ⟨hk, he⟩ := List.getElem?_eq_some_iff.1 h
  rw [List.take_succ_eq_append_getElem hk, Pl.lsum_append, he]
  simp [Pl.lsum]

theorem lsum_take_le (f : Nat → Nat) (l : List Nat) (k : Nat) : Pl.lsum f (l.take k) ≤ Pl.lsum f l := by
  conv => rhs; rw [← List.take_append_drop k l, Pl.lsum_append]
  omega

set_option maxHeartbeats 1000000 in
theorem size_step (M : Nat → Prop) (blk : Nat → Nat) (its : Nat → List Nat) (fs : Nat → List (ByteArray × Nat)) (sz : Nat → Nat) (j : Nat) (w : World)
    (hsz : sz j = 1 + Pl.lsum sz (its j) + Pl.lsum sz ((fs j).map Prod.snd)) (hb : sz j ≤ 1099511627776) (hli : (its j).length ≤ 1099511627776) (hlf : (fs j).length ≤ 1099511627776)
    (hj : M j) (hR : Rd w M blk its fs)
    (ih1 : ∀ c, c ∈ its j → ∀ w, Rd w M blk its fs → Calls Try.prog 8 #[.pointer (some ⟨blk c, 0, none⟩)] w fun e w' => e = .returned (.int .i64 (sz c : Nat)) ∧ Below w.heap.size w w')
    (ih2 : ∀ p, p ∈ fs j → ∀ w, Rd w M blk its fs → Calls Try.prog 8 #[.pointer (some ⟨blk p.2, 0, none⟩)] w fun e w' => e = .returned (.int .i64 (sz p.2 : Nat)) ∧ Below w.heap.size w w') :
    Calls Try.prog 8 #[.pointer (some ⟨blk j, 0, none⟩)] w fun e w' => e = .returned (.int .i64 (sz j : Nat)) ∧ Below w.heap.size w w' := by
  obtain ⟨k0, iv, fv, hblk, hiv, hfv⟩ := hR j hj
  obtain ⟨_, c9, c10, _, hlt⟩ := cell_node hblk
  obtain ⟨ia, icap, rfl, hia, hic⟩ := owns_read hiv
  obtain ⟨fa, fcap, rfl, hfa, hfc⟩ := owns_read hfv
  simp only [List.length_map] at c9 c10
  have HS : Hid (sz j = 1 + Pl.lsum sz (its j) + Pl.lsum sz ((fs j).map Prod.snd)) := hsz
  have HR : Hid (Rd w M blk its fs) := hR
  have HI := ih1
  have H1 : Hid (∀ c, c ∈ its j → ∀ w, Rd w M blk its fs → Calls Try.prog 8 #[.pointer (some ⟨blk c, 0, none⟩)] w fun e w' => e = .returned (.int .i64 (sz c : Nat)) ∧ Below w.heap.size w w') := ih1
  have H2 : Hid (∀ p, p ∈ fs j → ∀ w, Rd w M blk its fs → Calls Try.prog 8 #[.pointer (some ⟨blk p.2, 0, none⟩)] w fun e w' => e = .returned (.int .i64 (sz p.2 : Nat)) ∧ Below w.heap.size w w') := ih2
  have HIC := hic
  have HFC := hfc
  have HC : Hid (∀ i c, (its j)[i]? = some c → ∃ g, ia = some ⟨g, 0, none⟩ ∧ g < w.heap.size ∧ w.cell? ⟨g, i, none⟩ = some (.pointer (some ⟨blk c, 0, none⟩))) := by
    intro i c h
    obtain ⟨g, e, hg⟩ := hic i (.pointer (some ⟨blk c, 0, none⟩)) (by simp [ptrs, h])
    obtain ⟨g', e', hl⟩ := hia (by rw [e]; rfl)
    rw [e] at e'
    simp at e'; subst e'
    exact ⟨g, e, hl, hg⟩
  have HF : Hid (∀ i p, (fs j)[i]? = some p → ∃ g, fa = some ⟨g, 0, none⟩ ∧ g < w.heap.size ∧ w.cell? ⟨g, i * 5, none⟩ = some (.string p.1) ∧ w.cell? ⟨g, i * 5 + 1, none⟩ = some (.int .i64 0) ∧ w.cell? ⟨g, i * 5 + 2, none⟩ = some (.int .i64 1) ∧
      w.cell? ⟨g, i * 5 + 3, none⟩ = some (.int .i64 1) ∧ w.cell? ⟨g, i * 5 + 4, none⟩ = some (.pointer (some ⟨blk p.2, 0, none⟩))) := by
    intro i p h
    obtain ⟨k0, k1, k2, k3, k4⟩ := fcells_at ((fs j).map fun p => (p.1, blk p.2)) i (p.1, blk p.2) (by simp [h])
    obtain ⟨g, e, hg0⟩ := hfc _ _ k0
    obtain ⟨g1, e1, hg1⟩ := hfc _ _ k1
    obtain ⟨g2, e2, hg2⟩ := hfc _ _ k2
    obtain ⟨g3, e3, hg3⟩ := hfc _ _ k3
    obtain ⟨g4, e4, hg4⟩ := hfc _ _ k4
    obtain ⟨g', e', hl⟩ := hfa (by rw [e]; rfl)
    rw [e] at e' e1 e2 e3 e4
    simp at e' e1 e2 e3 e4
    subst e' e1 e2 e3 e4
    exact ⟨g, e, hl, hg0, hg1, hg2, hg3, hg4⟩
  clear hsz hR ih1 ih2 hic hfc hia hfa hiv hfv hblk HI HIC HFC
  go_enter Try.func8, Try.ntmps8
  go_wp2_with fail
  have hle1 := lsum_take_le sz (its j)
  have hle2 := lsum_take_le sz ((fs j).map Prod.snd)
  have HL1 : Hid (∀ k, Pl.lsum sz (List.take k (its j)) ≤ Pl.lsum sz (its j)) := hle1
  have HL2 : Hid (∀ k, Pl.lsum sz (List.take k ((fs j).map Prod.snd)) ≤ Pl.lsum sz ((fs j).map Prod.snd)) := hle2
  clear hle1 hle2
  go_loopw [3, 13] (fun sv iv wr => ∃ k : Nat, k ≤ (its j).length ∧ iv = .int .i64 k ∧ sv = .int .i64 (1 + Pl.lsum sz ((its j).take k) : Nat) ∧ Below w.heap.size w wr) (fun _ iv _ => (its j).length - (intOf iv).toNat)
  case atStart => exact ⟨0, Nat.zero_le _, rfl, rfl, Below.refl _ _⟩
  case round =>
    obtain ⟨k, hk, rfl, rfl, hbel⟩ := hrel
    have hT := HL1.out k
    have hS := HS.out
    have hB1 : 1 + Pl.lsum sz (List.take k (its j)) ≤ 1099511627776 := by omega
    clear hT hS
    by_cases hlt1 : k < (its j).length
    · obtain ⟨g, rfl, hgl, hcg⟩ := HC.out k (its j)[k] (List.getElem?_eq_getElem hlt1)
      have hcg' := (hbel.cell (p := ⟨g, k, none⟩) hgl).trans hcg
      have HX : Hid (Pl.lsum sz (List.take (k + 1) (its j)) = Pl.lsum sz (List.take k (its j)) + sz (its j)[k]) := lsum_take_succ sz (its j) k _ (List.getElem?_eq_getElem hlt1)
      clear hcg
      have hX := HX.out
      have hT2 := HL1.out (k + 1)
      have hS := HS.out
      have hB2 : sz (its j)[k] ≤ 1099511627776 := by omega
      clear hX hT2 hS
      go_wp2_with fail
      refine (H1.out _ (List.getElem_mem hlt1) _ (HR.out.below hbel (Nat.le_refl _))).mono ?_
      rintro e w1 ⟨rfl, hb1⟩
      go_wp2_with fail
      go_roundw
      case rel => exact ⟨k + 1, by omega, by go_num, by rw [HX.out]; go_num, hbel.trans (hb1.mono hbel.size)⟩
      case measure => simp [intOf]; omega
    · have hkn : k = (its j).length := by omega
      have HT : Hid (List.take k (its j) = its j) := by show _ = _; rw [hkn]; exact List.take_length
      have c10' := (hbel.cell (p := ⟨blk j, 10, none⟩) hlt).trans c10
      clear hkn
      go_wp2_with fail
      generalize hs0 : 1 + Pl.lsum sz (List.take k (its j)) = s0 at *
      have HE : Hid (s0 = 1 + Pl.lsum sz (its j)) := by show _ = _; rw [← hs0, HT.out]
      clear hs0 HT
      go_loopw [3, 27] (fun sv iv wr => ∃ k : Nat, k ≤ (fs j).length ∧ iv = .int .i64 k ∧ sv = .int .i64 (s0 + Pl.lsum sz (((fs j).map Prod.snd).take k) : Nat) ∧ Below w.heap.size w wr) (fun _ iv _ => (fs j).length - (intOf iv).toNat)
      case atStart => exact ⟨0, Nat.zero_le _, rfl, rfl, hbel⟩
      case round =>
        obtain ⟨q, hq, rfl, rfl, hbel2⟩ := hrel
        have hT := HL2.out q
        have hS := HS.out
        have hE := HE.out
        have hB3 : s0 + Pl.lsum sz (List.take q ((fs j).map Prod.snd)) ≤ 1099511627776 := by omega
        clear hT hS hE
        by_cases hlt2 : q < (fs j).length
        · obtain ⟨g, rfl, hgl, d0, d1, d2, d3, d4⟩ := HF.out q (fs j)[q] (List.getElem?_eq_getElem hlt2)
          have d0' := (hbel2.cell (p := ⟨g, q * 5, none⟩) hgl).trans d0
          have d1' := (hbel2.cell (p := ⟨g, q * 5 + 1, none⟩) hgl).trans d1
          have d2' := (hbel2.cell (p := ⟨g, q * 5 + 2, none⟩) hgl).trans d2
          have d3' := (hbel2.cell (p := ⟨g, q * 5 + 3, none⟩) hgl).trans d3
          have d4' := (hbel2.cell (p := ⟨g, q * 5 + 4, none⟩) hgl).trans d4
          have HX : Hid (Pl.lsum sz (List.take (q + 1) ((fs j).map Prod.snd)) = Pl.lsum sz (List.take q ((fs j).map Prod.snd)) + sz (fs j)[q].2) := lsum_take_succ sz ((fs j).map Prod.snd) q _ (by simp [List.getElem?_eq_getElem hlt2])
          clear d0 d1 d2 d3 d4
          have hX := HX.out
          have hT2 := HL2.out (q + 1)
          have hS := HS.out
          have hE := HE.out
          have hB2 : sz (fs j)[q].2 ≤ 1099511627776 := by omega
          clear hX hT2 hS hE
          have hal : Below w.heap.size w (wr.alloc (.cells #[Value.string (fs j)[q].fst, Value.int IntKind.i64 0, Value.int IntKind.i64 1, Value.int IntKind.i64 1, Value.pointer (some { block := blk (fs j)[q].snd, off := 0 })] 39)) := hbel2.alloc hbel2.size _
          have HAL := hal
          clear hal
          go_wp2_with fail
          refine (H2.out _ (List.getElem_mem hlt2) _ (HR.out.below HAL (Nat.le_refl _))).mono ?_
          rintro e w1 ⟨rfl, hb1⟩
          go_wp2_with fail
          go_roundw
          case rel => exact ⟨q + 1, by omega, by go_num, by rw [HX.out]; go_num, HAL.trans (hb1.mono HAL.size)⟩
          case measure => simp [intOf]; omega
        · have hkn : q = (fs j).length := by omega
          have HT : Hid (List.take q ((fs j).map Prod.snd) = (fs j).map Prod.snd) := by show _ = _; rw [hkn]; rw [List.take_of_length_le (by simp)]
          clear hkn
          go_wp2_with fail
          go_ret
          refine ⟨?_, hbel2⟩
          rw [HS.out, HE.out, HT.out]
          rfl

theorem size_any (N : Nat) (M : Nat → Prop) (blk : Nat → Nat) (its : Nat → List Nat) (fs : Nat → List (ByteArray × Nat)) (sz : Nat → Nat)
    (hi : ∀ j, M j → ∀ c, c ∈ its j → M c ∧ j < c ∧ c < N) (hf : ∀ j, M j → ∀ p, p ∈ fs j → M p.2 ∧ j < p.2 ∧ p.2 < N)
    (hsz : ∀ j, M j → sz j = 1 + Pl.lsum sz (its j) + Pl.lsum sz ((fs j).map Prod.snd)) (hb : ∀ j, M j → sz j ≤ 1099511627776)
    (hli : ∀ j, M j → (its j).length ≤ 1099511627776) (hlf : ∀ j, M j → (fs j).length ≤ 1099511627776) :
    ∀ (d j : Nat), N ≤ j + d → M j → ∀ w, Rd w M blk its fs → Calls Try.prog 8 #[.pointer (some ⟨blk j, 0, none⟩)] w fun e w' => e = .returned (.int .i64 (sz j : Nat)) ∧ Below w.heap.size w w' := by
  intro d
  induction d with
  | zero =>
    intro j hd hj w hR
    exact size_step M blk its fs sz j w (hsz j hj) (hb j hj) (hli j hj) (hlf j hj) hj hR (fun c hc => absurd (hi j hj c hc) (by omega)) (fun p hp => absurd (hf j hj p hp) (by omega))
  | succ d ih =>
    intro j hd hj w hR
    exact size_step M blk its fs sz j w (hsz j hj) (hb j hj) (hli j hj) (hlf j hj) hj hR
      (fun c hc w hw => ih c (by have := (hi j hj c hc).2.1; omega) (hi j hj c hc).1 w hw)
      (fun p hp w hw => ih p.2 (by have := (hf j hj p hp).2.1; omega) (hf j hj p hp).1 w hw)

end Go.Proofs.Qxb6627519a
