import Derived.Test.Qxb6627611aW2
import Derived.Deep.AppendLies
namespace Go.Proofs.Qxb6627611a
open Go.RowKit

theorem info5 : (Try.prog.info? 5).map (fun i => (i.zero, i.size, i.bytes)) = some (some (.int .u8 0), 1, 1) := by kernel_rfl

/-- What hexNameB1 has gathered behind k rounds. -/
structure Hex (w wr : World) (v : Value) (k : Nat) (ys : List Int) : Prop where
  row : ∃ g cap, v = .slice (some ⟨g, 0, none⟩) (1 + 2 * k) cap ∧ w.heap.size ≤ g
  own : wr.ownsRow w.heap.size 5 1 v (1 + 2 * k) ((120 :: ys).map (Value.int .u8))
  len : ys.length = 2 * k
  all : ∀ y, y ∈ ys → 0 ≤ y ∧ y ≤ 255 ∧ pt y = true
  bel : Below w.heap.size w wr

theorem Hex.start {w w1 w2 : World} {c g cap : Nat} {o : Obj} (hg1 : w.grownBy w1 none) (hown : w2.ownsRow w.heap.size 5 1 (.slice (some ⟨g, 0, none⟩) (0 + 1) cap) (0 + 1) ([] ++ [.int .u8 120]))
    (hg2 : (w1.alloc o).grownBy w2 (Value.slice (some ⟨w.heap.size, 0, none⟩) 0 c).ownBlock) (hat : (Value.slice (some ⟨w.heap.size, 0, none⟩) 0 c).ownBlock = some g ∨ g = w1.heap.size + 1) :
    Hex w w2 (.slice (some ⟨g, 0, none⟩) 1 cap) 0 [] := by
  have h1 : Below w.heap.size w w1 := (Below.refl _ _).grown hg1 (Nat.le_refl _) (fun k h => by cases h)
  refine ⟨⟨g, cap, rfl, ?_⟩, hown, rfl, fun y hy => by simp at hy, (h1.alloc h1.size o).grown hg2 (by have := h1.size; simp; omega) (fun q hq => by simp [Value.ownBlock] at hq; omega)⟩
  rcases hat with h | h
  · simp [Value.ownBlock] at h; omega
  · have := h1.size; omega

theorem Hex.step {w wr w1 w2 : World} {k g cap g1 cap1 g2 cap2 : Nat} {ys : List Int} {d1 d2 : Int} {o1 o2 : Obj} (hx : Hex w wr (.slice (some ⟨g, 0, none⟩) (1 + 2 * k) cap) k ys) (hgl : w.heap.size ≤ g)
    (hg1 : (wr.alloc o1).grownBy w1 (Value.slice (some ⟨g, 0, none⟩) (1 + 2 * k) cap).ownBlock) (hat1 : (Value.slice (some ⟨g, 0, none⟩) (1 + 2 * k) cap).ownBlock = some g1 ∨ g1 = wr.heap.size + 1)
    (hown2 : w2.ownsRow w.heap.size 5 1 (.slice (some ⟨g2, 0, none⟩) (1 + 2 * k + 1 + 1) cap2) (1 + 2 * k + 1 + 1) ((120 :: ys).map (Value.int .u8) ++ [.int .u8 d1] ++ [.int .u8 d2]))
    (hg2 : (w1.alloc o2).grownBy w2 (Value.slice (some ⟨g1, 0, none⟩) (1 + 2 * k + 1) cap1).ownBlock) (hat2 : (Value.slice (some ⟨g1, 0, none⟩) (1 + 2 * k + 1) cap1).ownBlock = some g2 ∨ g2 = w1.heap.size + 1)
    (h1 : 0 ≤ d1 ∧ d1 ≤ 255 ∧ pt d1 = true) (h2 : 0 ≤ d2 ∧ d2 ≤ 255 ∧ pt d2 = true) :
    Hex w w2 (.slice (some ⟨g2, 0, none⟩) (1 + 2 * k + 1 + 1) cap2) (k + 1) (ys ++ [d1, d2]) := by
  have e : 1 + 2 * (k + 1) = 1 + 2 * k + 1 + 1 := by omega
  have b0 := hx.bel
  have z0 := b0.size
  have b1 : Below w.heap.size w w1 := (b0.alloc z0 o1).grown hg1 (by simp; omega) (fun q hq => by simp [Value.ownBlock] at hq; omega)
  have z1 := b1.size
  have hgl1 : w.heap.size ≤ g1 := by
    rcases hat1 with h | h
    · simp [Value.ownBlock] at h; omega
    · omega
  have hgl2 : w.heap.size ≤ g2 := by
    rcases hat2 with h | h
    · simp [Value.ownBlock] at h; omega
    · omega
  refine ⟨⟨g2, cap2, by rw [e], hgl2⟩, ?_, ?_, ?_, (b1.alloc z1 o2).grown hg2 (by simp; omega) (fun q hq => by simp [Value.ownBlock] at hq; omega)⟩
  · rw [e]
    have e2 : (120 :: (ys ++ [d1, d2])).map (Value.int .u8) = (120 :: ys).map (Value.int .u8) ++ [.int .u8 d1] ++ [.int .u8 d2] := by simp
    rw [e2]; exact hown2
  · have := hx.len; simp; omega
  · intro y hy
    rcases List.mem_append.1 hy with h | h
    · exact hx.all y h
    · simp at h
      rcases h with rfl | rfl
      · exact h1
      · exact h2

set_option maxHeartbeats 1000000 in
theorem hex_any (s : ByteArray) (w : World) (hs : s.size ≤ 1048576) :
    Calls Try.prog 7 #[.string s] w fun e w' => ∃ ys : List Int, e = .returned (.string (strOfNums (120 :: ys))) ∧ ys.length = 2 * s.size ∧ (∀ y, y ∈ ys → 0 ≤ y ∧ y ≤ 255 ∧ pt y = true) ∧ Below w.heap.size w w' := by
  obtain ⟨i0, hi, hz0, hz1, hz2⟩ := info_parts info5
  have hby : i0.bytes * (1 + 2 * s.size) ≤ 281474976710656 := by rw [hz2]; omega
  go_enter Try.func7, Try.ntmps7
  go_wp2_with (first | (at_make; refine wpList_make_own _ rfl _ _ 27 rfl w.heap.size 5 i0 (.int .u8 0) 1 Try.underlying27 hi hz0 hz1 _ _ _ (1 + 2 * s.size) rfl rfl (by omega) hby (by unfold maxLen; omega) (Nat.le_refl _) ?_; intro w1 hown1 hgrow1; have HM := hid (And.intro hown1 hgrow1); have hsz1 := hgrow1.size; clear hown1 hgrow1) | (at_builtin; refine wpList_append_lies _ rfl _ _ _ rfl w.heap.size 5 i0 (.int .u8 0) 1 1 Try.underlying27 hi hz0 hz1 hz2 rfl (by decide) _ 0 [] rfl (HM.out.1.alloc _) ⟨w1.heap.size, 0, none⟩ 1 1 [.int .u8 120] rfl rfl (World.news_of_block (cs := #[.int .u8 120]) (t := 5) (fr := (0, 0)) (heap_alloc_new w1 _)) (by simp [Value.oneCell']) (by omega) (by unfold maxLen; omega) (by omega) (by simp; omega) (w1.heap.size + 1) (by simp) ?_; intro g cap w2 hown2 hgrow2 hat2 hlt2; have HX := hid (Hex.start HM.out.2 hown2 hgrow2 hat2); clear hown2 hgrow2 hat2 hlt2))
  go_loopw [3, 4] (fun v i wr => ∃ (k : Nat) (ys : List Int), k ≤ s.size ∧ i = .int .i64 k ∧ Hex w wr v k ys) (fun _ i _ => s.size - (intOf i).toNat)
  case atStart => exact ⟨0, [], Nat.zero_le _, rfl, HX.out⟩
  case round =>
    clear HX HM
    obtain ⟨k, ys, hk, rfl, hx⟩ := hrel
    obtain ⟨g, cap, rfl, hgl⟩ := hx.row
    have HX := hid hx
    have hsr : w.heap.size ≤ wr.heap.size := hx.bel.size
    clear hx
    by_cases hlt : k < s.size
    · have hb := UInt8.toNat_lt (s[k]'hlt)
      have hb' : ((s[k]'hlt).toNat : Int) < 256 := by omega
      go_wp2_with fail
      refine (digit_any _ _ (by omega) (by omega)).mono ?_
      rintro e w3 ⟨d1, rfl, hd10, hd11, hd1, hw⟩; replace hw := hw.symm; subst hw
      go_wp2_with (at_builtin; refine wpList_append_lies _ rfl _ _ _ rfl w.heap.size 5 i0 (.int .u8 0) 1 1 Try.underlying27 hi hz0 hz1 hz2 rfl (by decide) _ (1 + 2 * k) ((120 :: ys).map (Value.int .u8)) rfl (HX.out.own.alloc _) ⟨wr.heap.size, 0, none⟩ 1 1 [.int .u8 d1] rfl rfl (World.news_of_block (cs := #[.int .u8 d1]) (t := 5) (fr := (0, 0)) (heap_alloc_new wr _)) (by simp [Value.oneCell']) (by omega) (by unfold maxLen; omega) (by omega) (by simp; omega) (wr.heap.size + 1) (by simp) ?_; intro g1 cap1 w3 hown3 hgrow3 hat3 hlt3; have H3 := hid (And.intro hown3 (And.intro hgrow3 hat3)); have hsz3 := hgrow3.size; clear hown3 hgrow3 hat3)
      refine (digit_any _ _ (by omega) (by omega)).mono ?_
      rintro e w4 ⟨d2, rfl, hd20, hd21, hd2, hw⟩; replace hw := hw.symm; subst hw
      go_wp2_with (at_builtin; refine wpList_append_lies _ rfl _ _ _ rfl w.heap.size 5 i0 (.int .u8 0) 1 1 Try.underlying27 hi hz0 hz1 hz2 rfl (by decide) _ (1 + 2 * k + 1) ((120 :: ys).map (Value.int .u8) ++ [.int .u8 d1]) rfl (H3.out.1.alloc _) ⟨w3.heap.size, 0, none⟩ 1 1 [.int .u8 d2] rfl rfl (World.news_of_block (cs := #[.int .u8 d2]) (t := 5) (fr := (0, 0)) (heap_alloc_new w3 _)) (by simp [Value.oneCell']) (by omega) (by unfold maxLen; omega) (by omega) (by simp at hsz3 ⊢; omega) (w3.heap.size + 1) (by simp) ?_; intro g2 cap2 w4 hown4 hgrow4 hat4 hlt4; have HN := hid (Hex.step HX.out hgl H3.out.2.1 H3.out.2.2 hown4 hgrow4 hat4 ⟨hd10, hd11, hd1.out⟩ ⟨hd20, hd21, hd2.out⟩); clear hown4 hgrow4 hat4 hlt4)
      go_roundw
      case rel => exact ⟨k + 1, _, by omega, by go_num, HN.out⟩
      case measure => simp [intOf]; omega
    · have hks : k = s.size := by omega
      subst hks
      have hcv := run_convert_bytes_arg (P := Try.prog) wr 27 5 Try.underlying27 Try.underlying5 g 0 (1 + 2 * s.size) cap (120 :: ys) (by have := HX.out.len; simp; omega)
        (fun i hi => by
          rw [Nat.zero_add, HX.out.own.cellAt i (by omega)]
          have hl := HX.out.len
          rw [List.getElem?_map]
          have : (120 :: ys)[i]? = some ((120 :: ys).getD i 0) := by rw [List.getD_eq_getElem?_getD, List.getElem?_eq_getElem (by simp; omega)]; rfl
          rw [this]; rfl) 9 Try.underlying9
      go_wp2_with fail
      go_ret
      exact ⟨ys, rfl, HX.out.len, HX.out.all, HX.out.bel⟩

end Go.Proofs.Qxb6627611a
