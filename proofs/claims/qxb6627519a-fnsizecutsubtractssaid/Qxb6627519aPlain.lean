/-
  THE PLAIN LAW: trees given by their parents; no Go in sight.
  Node 0 is the root; node i+1 hangs under node 'par i', and 'par i ≤ i'.
-/
namespace Go.Proofs.Qxb6627519a.Pl

def sumTo (f : Nat → Nat) : Nat → Nat
  | 0 => 0
  | n + 1 => sumTo f n + f n

theorem sumTo_congr {f g : Nat → Nat} (n : Nat) (h : ∀ i, i < n → f i = g i) : sumTo f n = sumTo g n := by
  induction n with
  | zero => rfl
  | succ n ih => simp only [sumTo]; rw [ih (fun i hi => h i (by omega)), h n (by omega)]

theorem sumTo_add (f g : Nat → Nat) (n : Nat) : sumTo (fun i => f i + g i) n = sumTo f n + sumTo g n := by
  induction n with
  | zero => rfl
  | succ n ih => simp only [sumTo]; omega

theorem sumTo_zero (n : Nat) : sumTo (fun _ => 0) n = 0 := by
  induction n with
  | zero => rfl
  | succ n ih => simp only [sumTo]; omega

theorem sumTo_none {f : Nat → Nat} (n : Nat) (h : ∀ i, i < n → f i = 0) : sumTo f n = 0 := by
  rw [sumTo_congr n h]; exact sumTo_zero n

theorem sumTo_mul (c : Nat) (f : Nat → Nat) (n : Nat) : sumTo (fun i => c * f i) n = c * sumTo f n := by
  induction n with
  | zero => rfl
  | succ n ih => simp only [sumTo]; rw [ih, Nat.mul_add]

theorem sumTo_one (n : Nat) : sumTo (fun _ => 1) n = n := by
  induction n with
  | zero => rfl
  | succ n ih => simp only [sumTo]; omega

theorem sumTo_le {f g : Nat → Nat} (n : Nat) (h : ∀ i, i < n → f i ≤ g i) : sumTo f n ≤ sumTo g n := by
  induction n with
  | zero => exact Nat.le_refl _
  | succ n ih =>
    simp only [sumTo]
    have h1 := ih (fun i hi => h i (by omega))
    have h2 := h n (by omega)
    omega

/-- One place holds c, all others nothing. -/
theorem sumTo_at (k c : Nat) (n : Nat) : sumTo (fun i => if i = k then c else 0) n = if k < n then c else 0 := by
  induction n with
  | zero => simp [sumTo]
  | succ n ih =>
    simp only [sumTo, ih]
    by_cases h1 : k < n
    · rw [if_pos h1, if_neg (by omega), if_pos (by omega)]; omega
    · by_cases h2 : n = k
      · rw [if_neg h1, if_pos h2, if_pos (by omega)]; omega
      · rw [if_neg h1, if_neg h2, if_neg (by omega)]

theorem sumTo_swap (f : Nat → Nat → Nat) (n m : Nat) : sumTo (fun x => sumTo (fun i => f i x) n) m = sumTo (fun i => sumTo (fun x => f i x) m) n := by
  induction m with
  | zero => simp only [sumTo]; rw [sumTo_zero]
  | succ m ih => simp only [sumTo]; rw [ih, sumTo_add]

/-! ### The chain of parents -/

def hitF (par : Nat → Nat) (k : Nat) : Nat → Nat → Bool
  | 0, x => x == k
  | f + 1, x => if k < x then hitF par k f (par (x - 1)) else x == k

/-- Does the chain of parents of x pass through k? -/
def hit (par : Nat → Nat) (k x : Nat) : Bool := hitF par k x x

section
variable {par : Nat → Nat} {n : Nat}

theorem hitF_fuel (hp : ∀ i, i < n → par i ≤ i) (k : Nat) : ∀ (f g x : Nat), x ≤ f → x ≤ g → x ≤ n → hitF par k f x = hitF par k g x := by
  intro f
  induction f with
  | zero =>
    intro g x h1 h2 h3
    have hx : x = 0 := by omega
    subst hx
    cases g with
    | zero => rfl
    | succ g => simp only [hitF]; rw [if_neg (by omega)]
  | succ f ih =>
    intro g x h1 h2 h3
    cases g with
    | zero =>
      have hx : x = 0 := by omega
      subst hx
      simp only [hitF]; rw [if_neg (by omega)]
    | succ g =>
      simp only [hitF]
      by_cases hk : k < x
      · rw [if_pos hk, if_pos hk]
        have := hp (x - 1) (by omega)
        exact ih g (par (x - 1)) (by omega) (by omega) (by omega)
      · rw [if_neg hk, if_neg hk]

theorem hit_up (hp : ∀ i, i < n → par i ≤ i) {k x : Nat} (hk : k < x) (hx : x ≤ n) : hit par k x = hit par k (par (x - 1)) := by
  obtain ⟨y, rfl⟩ : ∃ y, x = y + 1 := ⟨x - 1, by omega⟩
  unfold hit
  conv => lhs; rw [hitF]
  rw [if_pos hk]
  have := hp y (by omega)
  simp only [Nat.add_sub_cancel]
  exact hitF_fuel hp k y (par y) (par y) (by omega) (by omega) (by omega)

theorem hit_low {k x : Nat} (hk : ¬ k < x) : hit par k x = (x == k) := by
  unfold hit
  cases x with
  | zero => rfl
  | succ x => rw [hitF, if_neg hk]

theorem hit_self (k : Nat) : hit par k k = true := by rw [hit_low (by omega)]; simp

theorem hit_below {k x : Nat} (h : x < k) : hit par k x = false := by
  rw [hit_low (by omega)]
  exact beq_eq_false_iff_ne.2 (by omega)

theorem hit_root (hp : ∀ i, i < n → par i ≤ i) : ∀ (d x : Nat), x ≤ d → x ≤ n → hit par 0 x = true := by
  intro d
  induction d with
  | zero => intro x h1 h2; have : x = 0 := by omega
            subst this; exact hit_self 0
  | succ d ih =>
    intro x h1 h2
    by_cases h0 : 0 < x
    · rw [hit_up hp h0 h2]
      have := hp (x - 1) (by omega)
      exact ih _ (by omega) (by omega)
    · have : x = 0 := by omega
      subst this; exact hit_self 0

/-- 1 or 0. -/
def b2n (b : Bool) : Nat := if b then 1 else 0

/-- The chain of x passes through k: x is k, or it passes through just one child of k. -/
theorem hit_split (hp : ∀ i, i < n → par i ≤ i) (k : Nat) (hk : k ≤ n) : ∀ (d x : Nat), x ≤ d → x ≤ n →
    b2n (hit par k x) = (if x = k then 1 else 0) + sumTo (fun i => if par i = k then b2n (hit par (i + 1) x) else 0) n := by
  intro d
  induction d with
  | zero =>
    intro x h1 h2
    have hx : x = 0 := by omega
    subst hx
    have hz : sumTo (fun i => if par i = k then b2n (hit par (i + 1) 0) else 0) n = 0 := by
      refine sumTo_none n fun i _ => ?_
      rw [hit_below (by omega)]
      simp [b2n]
    rw [hz, hit_low (by omega)]
    by_cases h : (0 : Nat) = k
    · rw [if_pos h]; subst h; rfl
    · rw [if_neg h, beq_eq_false_iff_ne.2 h]; rfl
  | succ d ih =>
    intro x h1 h2
    by_cases hlt : k < x
    · have hpx := hp (x - 1) (by omega)
      rw [hit_up hp hlt h2, ih (par (x - 1)) (by omega) (by omega), if_neg (show ¬ x = k by omega)]
      have e : sumTo (fun i => if par i = k then b2n (hit par (i + 1) x) else 0) n
          = sumTo (fun i => (if par i = k then b2n (hit par (i + 1) (par (x - 1))) else 0) + (if i = x - 1 then (if par (x - 1) = k then 1 else 0) else 0)) n := by
        refine sumTo_congr n fun i hi => ?_
        by_cases hik : par i = k
        · rw [if_pos hik, if_pos hik]
          by_cases hx1 : i + 1 < x
          · rw [hit_up hp hx1 h2, if_neg (show ¬ i = x - 1 by omega)]; omega
          · by_cases hx2 : i = x - 1
            · rw [if_pos hx2, ← hx2, if_pos hik]
              have hxe : x = i + 1 := by omega
              have h3 : hit par (i + 1) x = true := by rw [hxe]; exact hit_self _
              have h4 : hit par (i + 1) (par i) = false := hit_below (by have := hp i hi; omega)
              rw [h3, h4]; rfl
            · have h3 : hit par (i + 1) x = false := hit_below (by omega)
              have h4 : hit par (i + 1) (par (x - 1)) = false := hit_below (by omega)
              rw [h3, h4, if_neg hx2]; rfl
        · rw [if_neg hik, if_neg hik]
          by_cases hx2 : i = x - 1
          · rw [if_pos hx2, ← hx2, if_neg hik]
          · rw [if_neg hx2]
      rw [e, sumTo_add, sumTo_at, if_pos (show x - 1 < n by omega)]
      rw [Nat.zero_add]
      exact Nat.add_comm _ _
    · have hz : sumTo (fun i => if par i = k then b2n (hit par (i + 1) x) else 0) n = 0 := by
        refine sumTo_none n fun i hi => ?_
        by_cases hik : par i = k
        · have := hp i hi
          rw [hit_below (by omega)]; simp [b2n]
        · rw [if_neg hik]
      rw [hz, hit_low hlt]
      by_cases h : x = k
      · rw [if_pos h]; subst h; simp [b2n]
      · rw [if_neg h, beq_eq_false_iff_ne.2 h]; rfl

/-- The weight of all nodes whose chain passes through k. -/
def wgt (par : Nat → Nat) (n : Nat) (wt : Nat → Nat) (k : Nat) : Nat := sumTo (fun x => wt x * b2n (hit par k x)) (n + 1)

theorem wgt_split (hp : ∀ i, i < n → par i ≤ i) (wt : Nat → Nat) (k : Nat) (hk : k ≤ n) :
    wgt par n wt k = wt k + sumTo (fun i => if par i = k then wgt par n wt (i + 1) else 0) n := by
  unfold wgt
  have e : sumTo (fun x => wt x * b2n (hit par k x)) (n + 1)
      = sumTo (fun x => (if x = k then wt k else 0) + sumTo (fun i => (fun i x => if par i = k then wt x * b2n (hit par (i + 1) x) else 0) i x) n) (n + 1) := by
    refine sumTo_congr (n + 1) fun x hx => ?_
    rw [hit_split hp k hk x x (Nat.le_refl _) (by omega), Nat.mul_add, ← sumTo_mul]
    congr 1
    · by_cases h : x = k
      · rw [if_pos h, if_pos h, h]; omega
      · rw [if_neg h, if_neg h]; omega
    · refine sumTo_congr n fun i _ => ?_
      by_cases h : par i = k
      · simp only [if_pos h]
      · simp only [if_neg h]; omega
  rw [e, sumTo_add, sumTo_at, if_pos (by omega), sumTo_swap]
  congr 1
  refine sumTo_congr n fun i _ => ?_
  by_cases h : par i = k
  · simp only [if_pos h]
  · simp only [if_neg h]; exact sumTo_zero _

theorem wgt_root (hp : ∀ i, i < n → par i ≤ i) (wt : Nat → Nat) : wgt par n wt 0 = sumTo wt (n + 1) := by
  unfold wgt
  refine sumTo_congr (n + 1) fun x hx => ?_
  rw [hit_root hp x x (Nat.le_refl _) (by omega)]
  simp [b2n]

theorem wgt_le (wt : Nat → Nat) (k : Nat) : wgt par n wt k ≤ sumTo wt (n + 1) := by
  unfold wgt
  refine sumTo_le (n + 1) fun x _ => ?_
  unfold b2n
  split <;> omega
end

/-! ### Children, as lists -/

def lsum (f : Nat → Nat) : List Nat → Nat
  | [] => 0
  | c :: l => f c + lsum f l

theorem lsum_append (f : Nat → Nat) (l m : List Nat) : lsum f (l ++ m) = lsum f l + lsum f m := by
  induction l with
  | nil => simp [lsum]
  | cons c l ih => simp only [List.cons_append, lsum, ih]; omega

theorem lsum_congr {f g : Nat → Nat} (l : List Nat) (h : ∀ c, c ∈ l → f c = g c) : lsum f l = lsum g l := by
  induction l with
  | nil => rfl
  | cons c l ih => simp only [lsum]; rw [h c (by simp), ih fun c hc => h c (by simp [hc])]

/-- The children of k among the first m nodes behind the root. -/
def ch (par : Nat → Nat) (k : Nat) : Nat → List Nat
  | 0 => []
  | m + 1 => if par m = k then ch par k m ++ [m + 1] else ch par k m

theorem lsum_ch (f : Nat → Nat) (par : Nat → Nat) (k m : Nat) : lsum f (ch par k m) = sumTo (fun i => if par i = k then f (i + 1) else 0) m := by
  induction m with
  | zero => rfl
  | succ m ih =>
    simp only [ch, sumTo]
    by_cases h : par m = k
    · rw [if_pos h, if_pos h, lsum_append, ih]; simp [lsum]
    · rw [if_neg h, if_neg h, ih]; omega

theorem mem_ch {par : Nat → Nat} {k m c : Nat} (h : c ∈ ch par k m) : ∃ i, i < m ∧ c = i + 1 ∧ par i = k := by
  induction m with
  | zero => simp [ch] at h
  | succ m ih =>
    simp only [ch] at h
    by_cases hm : par m = k
    · rw [if_pos hm] at h
      rcases List.mem_append.1 h with h | h
      · obtain ⟨i, h1, h2, h3⟩ := ih h; exact ⟨i, by omega, h2, h3⟩
      · simp at h; exact ⟨m, by omega, h, hm⟩
    · rw [if_neg hm] at h
      obtain ⟨i, h1, h2, h3⟩ := ih h; exact ⟨i, by omega, h2, h3⟩

theorem length_ch (par : Nat → Nat) (k m : Nat) : (ch par k m).length ≤ m := by
  induction m with
  | zero => simp [ch]
  | succ m ih =>
    simp only [ch]
    split
    · simp; omega
    · omega

theorem wgt_ch {par : Nat → Nat} {n : Nat} (hp : ∀ i, i < n → par i ≤ i) (wt : Nat → Nat) (k : Nat) (hk : k ≤ n) :
    wgt par n wt k = wt k + lsum (wgt par n wt) (ch par k n) := by
  rw [lsum_ch]; exact wgt_split hp wt k hk

end Go.Proofs.Qxb6627519a.Pl
