/-
  The plain mathematics of the greedy search for a shortest edit script: no Go in sight.
  'E i j': the i-th element of x equals the j-th of y (false off the grid).
-/
namespace Go.Proofs.Qxb6601753a.Plain

/-- One row of the table of longest common subsequences, from the row before it. -/
def nxt (E : Nat → Nat → Bool) (prev : Nat → Nat) (i : Nat) : Nat → Nat
  | 0 => 0
  | j + 1 => if E i j then prev j + 1 else max (prev (j + 1)) (nxt E prev i j)

/-- The table: the first i elements against the first j. -/
def lc (E : Nat → Nat → Bool) : Nat → Nat → Nat
  | 0 => fun _ => 0
  | i + 1 => nxt E (lc E i) i

theorem lc_zero (E) (j) : lc E 0 j = 0 := rfl
theorem lc_left (E) (i) : lc E i 0 = 0 := by cases i <;> rfl
theorem lc_hit {E i j} (h : E i j = true) : lc E (i + 1) (j + 1) = lc E i j + 1 := by
  show nxt E (lc E i) i (j + 1) = _
  simp [nxt, h]
theorem lc_miss {E i j} (h : E i j = false) : lc E (i + 1) (j + 1) = max (lc E i (j + 1)) (lc E (i + 1) j) := by
  show nxt E (lc E i) i (j + 1) = _
  simp only [nxt, h]; rfl

theorem lc_steps (E) (i : Nat) : (∀ j, lc E i j ≤ lc E i (j + 1) ∧ lc E i (j + 1) ≤ lc E i j + 1) ∧ (∀ j, lc E i j ≤ lc E (i + 1) j ∧ lc E (i + 1) j ≤ lc E i j + 1) := by
  induction i with
  | zero =>
    have hB : ∀ j, lc E 0 j ≤ lc E 1 j ∧ lc E 1 j ≤ lc E 0 j + 1 := by
      intro j
      refine ⟨by simp [lc_zero], ?_⟩
      induction j with
      | zero => simp [lc_left]
      | succ j ih =>
        cases h : E 0 j
        · rw [lc_miss h]; simp [lc_zero] at ih ⊢; omega
        · rw [lc_hit h]; simp [lc_zero]
    exact ⟨fun j => by simp [lc_zero], hB⟩
  | succ i ih =>
    obtain ⟨_, hB⟩ := ih
    have hA : ∀ j, lc E (i + 1) j ≤ lc E (i + 1) (j + 1) ∧ lc E (i + 1) (j + 1) ≤ lc E (i + 1) j + 1 := by
      intro j
      have b := hB j
      have b' := hB (j + 1)
      have a := (by assumption : ∀ j, lc E i j ≤ lc E i (j + 1) ∧ lc E i (j + 1) ≤ lc E i j + 1) j
      cases h : E i j
      · rw [lc_miss h] at b' ⊢; omega
      · rw [lc_hit h] at b' ⊢; omega
    refine ⟨hA, fun j => ?_⟩
    induction j with
    | zero => simp [lc_left]
    | succ j ih =>
      have a := hA j
      cases h : E (i + 1) j
      · rw [lc_miss h]; omega
      · rw [lc_hit h]; omega

theorem lc_right (E i j) : lc E i j ≤ lc E i (j + 1) := ((lc_steps E i).1 j).1
theorem lc_down (E i j) : lc E i j ≤ lc E (i + 1) j := ((lc_steps E i).2 j).1
theorem lc_le_i (E) (i j) : lc E i j ≤ i := by
  induction i with
  | zero => simp [lc_zero]
  | succ i ih => have := ((lc_steps E i).2 j).2; omega
theorem lc_le_j (E) (i j) : lc E i j ≤ j := by
  induction j with
  | zero => simp [lc_left]
  | succ j ih => have := ((lc_steps E i).1 j).2; omega

/-- Off the grid nothing more is common. -/
theorem lc_past_i {E : Nat → Nat → Bool} {n : Nat} (hE : ∀ i j, E i j = true → i < n) (i j : Nat) (h : n ≤ i) : lc E (i + 1) j = lc E i j := by
  induction j with
  | zero => simp [lc_left]
  | succ j ih =>
    have hf : E i j = false := by cases hb : E i j with
      | false => rfl
      | true => have := hE i j hb; omega
    rw [lc_miss hf, ih]
    have := lc_right E i j; omega
theorem lc_past_j {E : Nat → Nat → Bool} {m : Nat} (hE : ∀ i j, E i j = true → j < m) (i j : Nat) (h : m ≤ j) : lc E i (j + 1) = lc E i j := by
  induction i with
  | zero => simp [lc_zero]
  | succ i ih =>
    have hf : E i j = false := by cases hb : E i j with
      | false => rfl
      | true => have := hE i j hb; omega
    rw [lc_miss hf, ih]
    have := lc_down E i j; omega
theorem lc_past {E : Nat → Nat → Bool} {n m : Nat} (hE : ∀ i j, E i j = true → i < n ∧ j < m) (i j : Nat) (hi : n ≤ i) (hj : m ≤ j) : lc E i j = lc E n m := by
  have h1 : lc E i j = lc E n j := by
    obtain ⟨a, rfl⟩ : ∃ a, i = n + a := ⟨i - n, by omega⟩
    clear hi
    induction a with
    | zero => rfl
    | succ a ih => rw [← ih]; exact lc_past_i (fun i j h => (hE i j h).1) (n + a) j (by omega)
  rw [h1]
  obtain ⟨a, rfl⟩ : ∃ a, j = m + a := ⟨j - m, by omega⟩
  clear hj h1
  induction a with
  | zero => rfl
  | succ a ih => rw [← ih]; exact lc_past_j (fun i j h => (hE i j h).2) n (m + a) (by omega)

/-- How many steps on end x and y agree from (i, j) on. -/
def sn (E : Nat → Nat → Bool) : Nat → Nat → Nat → Nat
  | 0, _, _ => 0
  | f + 1, i, j => if E i j then sn E f (i + 1) (j + 1) + 1 else 0

theorem sn_all {E : Nat → Nat → Bool} (f i j t : Nat) (h : t < sn E f i j) : E (i + t) (j + t) = true := by
  induction f generalizing i j t with
  | zero => simp [sn] at h
  | succ f ih =>
    simp only [sn] at h
    cases hb : E i j
    · simp [hb] at h
    · simp only [hb, if_true] at h
      cases t with
      | zero => exact hb
      | succ t =>
        have := ih (i + 1) (j + 1) t (by omega)
        rw [show i + (t + 1) = i + 1 + t by omega, show j + (t + 1) = j + 1 + t by omega]; exact this

theorem sn_end {E : Nat → Nat → Bool} {n : Nat} (hE : ∀ i j, E i j = true → i < n) (f i j : Nat) (hf : n ≤ i + f) : E (i + sn E f i j) (j + sn E f i j) = false := by
  induction f generalizing i j with
  | zero =>
    cases hb : E (i + sn E 0 i j) (j + sn E 0 i j) with
    | false => rfl
    | true => have := hE _ _ hb; omega
  | succ f ih =>
    simp only [sn]
    cases hb : E i j
    · simpa using hb
    · have := ih (i + 1) (j + 1) (by omega)
      simp only [if_true]
      rw [show i + (sn E f (i + 1) (j + 1) + 1) = i + 1 + sn E f (i + 1) (j + 1) by omega, show j + (sn E f (i + 1) (j + 1) + 1) = j + 1 + sn E f (i + 1) (j + 1) by omega]; exact this

/-- Whoever walks as long as they agree, and stops where they don't, has walked just that far. -/
theorem sn_unique {E : Nat → Nat → Bool} {n : Nat} (hE : ∀ i j, E i j = true → i < n) (f i j t : Nat) (hf : n ≤ i + f) (hall : ∀ u, u < t → E (i + u) (j + u) = true) (hend : E (i + t) (j + t) = false) : sn E f i j = t := by
  have h1 := sn_end hE f i j hf
  rcases Nat.lt_trichotomy (sn E f i j) t with h | h | h
  · have := hall _ h; rw [h1] at this; cases this
  · exact h
  · have := sn_all f i j t h; rw [hend] at this; cases this

theorem sn_le {E : Nat → Nat → Bool} {n m : Nat} (hE : ∀ i j, E i j = true → i < n ∧ j < m) (f i j : Nat) : sn E f i j ≤ n ∧ sn E f i j ≤ m := by
  cases h : sn E f i j with
  | zero => omega
  | succ t =>
    have := hE _ _ (sn_all f i j t (by omega)); omega

theorem lc_snake {E : Nat → Nat → Bool} (i j t : Nat) (h : ∀ u, u < t → E (i + u) (j + u) = true) : lc E (i + t) (j + t) = lc E i j + t := by
  induction t with
  | zero => rfl
  | succ t ih =>
    have := ih (fun u hu => h u (by omega))
    rw [show i + (t + 1) = (i + t) + 1 by omega, show j + (t + 1) = (j + t) + 1 by omega, lc_hit (h t (by omega)), this]; omega

/-- Which of the two neighbours a step comes from, as Go's text asks it. -/
def up (F : Int → Int) (d : Nat) (k : Int) : Bool := decide (k = -(d : Int)) || (decide (k ≠ (d : Int)) && decide (F (k - 1) < F (k + 1)))
def pickI (F : Int → Int) (d : Nat) (k : Int) : Int := if up F d k then F (k + 1) else F (k - 1) + 1

/-- 'G (d + 1) k': the furthest index that d edits reach on the diagonal k; 'G 0': the zeros of the start. -/
def G (E : Nat → Nat → Bool) (N : Nat) : Nat → Int → Int
  | 0 => fun _ => 0
  | d + 1 => fun k => pickI (G E N d) d k + (sn E N (pickI (G E N d) d k).toNat (pickI (G E N d) d k - k).toNat : Nat)

theorem G_succ (E N d k) : G E N (d + 1) k = pickI (G E N d) d k + (sn E N (pickI (G E N d) d k).toNat (pickI (G E N d) d k - k).toNat : Nat) := rfl

theorem up_low {F : Int → Int} {d : Nat} {k : Int} (h : k = -(d : Int)) : up F d k = true := by simp [up, h]
theorem up_high {F : Int → Int} {d : Nat} {k : Int} (h : k = (d : Int)) (hd : 0 < d) : up F d k = false := by
  have h1 : ¬ k = -(d : Int) := by omega
  simp [up, h]; omega
theorem up_mid {F : Int → Int} {d : Nat} {k : Int} (h1 : ¬ k = -(d : Int)) (h2 : ¬ k = (d : Int)) : up F d k = decide (F (k - 1) < F (k + 1)) := by simp [up, h1, h2]

/-- The step's start, on each side. -/
theorem pick_ge_right {F : Int → Int} {d : Nat} {k : Int} (h : ¬ k = -(d : Int)) : F (k - 1) + 1 ≤ pickI F d k := by
  unfold pickI
  by_cases h2 : k = (d : Int)
  · rw [up_high h2 (by omega)]; simp
  · rw [up_mid h h2]
    by_cases h3 : F (k - 1) < F (k + 1)
    · simp [h3]; omega
    · simp [h3]
theorem pick_ge_up {F : Int → Int} {d : Nat} {k : Int} (h : ¬ k = (d : Int)) : F (k + 1) ≤ pickI F d k := by
  unfold pickI
  by_cases h2 : k = -(d : Int)
  · rw [up_low h2]; simp
  · rw [up_mid h2 h]
    by_cases h3 : F (k - 1) < F (k + 1)
    · simp [h3]
    · simp [h3]; omega

/-- A diagonal that d edits can stand on. -/
def On (d : Nat) (k : Int) : Prop := -(d : Int) ≤ k ∧ k ≤ (d : Int) ∧ (k - (d : Int)) % 2 = 0

/-- Where the step comes from lies on the round before's diagonals. -/
theorem from_up {F : Int → Int} {d : Nat} {k : Int} (h : On (d + 1) k) (hu : up F (d + 1) k = true) : On d (k + 1) := by
  unfold On at *
  by_cases h1 : k = -((d + 1 : Nat) : Int)
  · omega
  · by_cases h2 : k = ((d + 1 : Nat) : Int)
    · rw [up_high h2 (by omega)] at hu; cases hu
    · omega
theorem from_right {F : Int → Int} {d : Nat} {k : Int} (h : On (d + 1) k) (hu : up F (d + 1) k = false) : On d (k - 1) := by
  unfold On at *
  by_cases h1 : k = -((d + 1 : Nat) : Int)
  · rw [up_low h1] at hu; cases hu
  · omega
theorem on_zero {k : Int} (h : On 0 k) : k = 0 := by unfold On at h; omega

theorem G_nonneg (E N) (d : Nat) : ∀ k, On d k → 0 ≤ pickI (G E N d) d k ∧ k ≤ pickI (G E N d) d k ∧ 0 ≤ G E N (d + 1) k ∧ k ≤ G E N (d + 1) k := by
  induction d with
  | zero =>
    intro k h
    obtain rfl := on_zero h
    have e : pickI (G E N 0) 0 0 = 0 := by unfold pickI; rw [up_low (by simp)]; rfl
    rw [G_succ, e]; omega
  | succ d ih =>
    intro k h
    have h0 : 0 ≤ pickI (G E N (d + 1)) (d + 1) k ∧ k ≤ pickI (G E N (d + 1)) (d + 1) k := by
      unfold pickI
      cases hu : up (G E N (d + 1)) (d + 1) k
      · have := (ih _ (from_right h hu)).2.2
        simp; omega
      · have := (ih _ (from_up h hu)).2.2
        simp; omega
    rw [G_succ]; omega

/-- SOUNDNESS: the furthest point of d edits lies within d edits of the origin. -/
theorem G_sound (E N) (d : Nat) : ∀ k, On d k → 2 * G E N (d + 1) k - k - 2 * (lc E (G E N (d + 1) k).toNat (G E N (d + 1) k - k).toNat : Nat) ≤ d := by
  have snake : ∀ (d : Nat) (k : Int), 0 ≤ pickI (G E N d) d k → k ≤ pickI (G E N d) d k → 2 * pickI (G E N d) d k - k - 2 * (lc E (pickI (G E N d) d k).toNat (pickI (G E N d) d k - k).toNat : Nat) ≤ d →
      2 * G E N (d + 1) k - k - 2 * (lc E (G E N (d + 1) k).toNat (G E N (d + 1) k - k).toNat : Nat) ≤ d := by
    intro d k h1 h2 h3
    rw [G_succ]
    generalize pickI (G E N d) d k = p at h1 h2 h3 ⊢
    have hl := lc_snake p.toNat (p - k).toNat (sn E N p.toNat (p - k).toNat) (fun u hu => sn_all N _ _ u hu)
    generalize sn E N p.toNat (p - k).toNat = t at hl ⊢
    rw [show (p + (t : Int)).toNat = p.toNat + t by omega, show (p + (t : Int) - k).toNat = (p - k).toNat + t by omega, hl]
    omega
  induction d with
  | zero =>
    intro k h
    obtain rfl := on_zero h
    have e : pickI (G E N 0) 0 0 = 0 := by unfold pickI; rw [up_low (by simp)]; rfl
    refine snake 0 0 (by rw [e]; omega) (by rw [e]; omega) ?_
    rw [e]; simp [lc_zero]
  | succ d ih =>
    intro k h
    have hn := G_nonneg E N (d + 1) k h
    refine snake (d + 1) k hn.1 hn.2.1 ?_
    have h0 := hn.1
    have h1 := hn.2.1
    unfold pickI at h0 h1 ⊢
    cases hu : up (G E N (d + 1)) (d + 1) k
    · have hf := from_right h hu
      have i1 := ih _ hf
      have i2 := (G_nonneg E N d _ hf).2.2
      rw [hu] at h0 h1
      simp only [Bool.false_eq_true, if_false] at h0 h1 ⊢
      generalize G E N (d + 1) (k - 1) = g at *
      have := lc_down E g.toNat (g - (k - 1)).toNat
      rw [show (g + 1).toNat = g.toNat + 1 by omega, show (g + 1 - k).toNat = (g - (k - 1)).toNat by omega]
      omega
    · have hf := from_up h hu
      have i1 := ih _ hf
      have i2 := (G_nonneg E N d _ hf).2.2
      rw [hu] at h0 h1
      simp only [if_true] at h0 h1 ⊢
      generalize G E N (d + 1) (k + 1) = g at *
      have := lc_right E g.toNat (g - (k + 1)).toNat
      rw [show (g - k).toNat = (g - (k + 1)).toNat + 1 by omega]
      omega

/-- The furthest point is the end of a run of equals. -/
theorem G_stop {E : Nat → Nat → Bool} {n N : Nat} (hE : ∀ i j, E i j = true → i < n) (hN : n ≤ N) (d : Nat) (k : Int) (h : On d k) :
    E (G E N (d + 1) k).toNat (G E N (d + 1) k - k).toNat = false := by
  have hn := G_nonneg E N d k h
  rw [G_succ]
  have h1 := hn.1
  have h2 := hn.2.1
  generalize pickI (G E N d) d k = p at h1 h2 ⊢
  have := sn_end hE N p.toNat (p - k).toNat (by omega)
  generalize sn E N p.toNat (p - k).toNat = t at this ⊢
  rw [show (p + (t : Int)).toNat = p.toNat + t by omega, show (p + (t : Int) - k).toNat = (p - k).toNat + t by omega]
  exact this

/-- OPTIMALITY: whatever lies within d edits is reached by the furthest point of d edits. -/
theorem G_opt {E : Nat → Nat → Bool} {n N : Nat} (hE : ∀ i j, E i j = true → i < n) (hN : n ≤ N) (s : Nat) : ∀ (i j d : Nat), i + j = s → (i : Int) + j - 2 * (lc E i j : Nat) ≤ d → ((i : Int) - j - d) % 2 = 0 →
    On d ((i : Int) - j) ∧ (i : Int) ≤ G E N (d + 1) ((i : Int) - j) := by
  induction s using Nat.strongRecOn with
  | ind s ih =>
    intro i j d hs he hp
    have li := lc_le_i E i j
    have lj := lc_le_j E i j
    have hon : On d ((i : Int) - j) := by unfold On; omega
    refine ⟨hon, ?_⟩
    have hn := G_nonneg E N d _ hon
    cases i with
    | zero => omega
    | succ i =>
      -- one edit less, on the left
      have left : (i : Int) + j - 2 * (lc E i j : Nat) ≤ (d : Int) - 1 → ((i + 1 : Nat) : Int) ≤ G E N (d + 1) (((i + 1 : Nat) : Int) - j) := by
        intro h
        have li := lc_le_i E i j
        have lj := lc_le_j E i j
        obtain ⟨c, rfl⟩ : ∃ c, d = c + 1 := ⟨d - 1, by omega⟩
        obtain ⟨o1, o2⟩ := ih (i + j) (by omega) i j c rfl (by omega) (by omega)
        have hk : ((i + 1 : Nat) : Int) - j - 1 = (i : Int) - j := by omega
        have hne : ¬ ((i + 1 : Nat) : Int) - j = -((c + 1 : Nat) : Int) := by unfold On at o1; omega
        have hg := pick_ge_right (F := G E N (c + 1)) hne
        rw [hk] at hg
        rw [G_succ]; omega
      have above : ∀ j', j = j' + 1 → ((i + 1 : Nat) : Int) + j' - 2 * (lc E (i + 1) j' : Nat) ≤ (d : Int) - 1 → ((i + 1 : Nat) : Int) ≤ G E N (d + 1) (((i + 1 : Nat) : Int) - j) := by
        intro j' hj h
        have li := lc_le_i E (i + 1) j'
        have lj := lc_le_j E (i + 1) j'
        obtain ⟨c, rfl⟩ : ∃ c, d = c + 1 := ⟨d - 1, by omega⟩
        obtain ⟨o1, o2⟩ := ih (i + 1 + j') (by omega) (i + 1) j' c rfl (by omega) (by omega)
        have hk : ((i + 1 : Nat) : Int) - j + 1 = ((i + 1 : Nat) : Int) - j' := by omega
        have hne : ¬ ((i + 1 : Nat) : Int) - j = ((c + 1 : Nat) : Int) := by unfold On at o1; omega
        have hg := pick_ge_up (F := G E N (c + 1)) hne
        rw [hk] at hg
        rw [G_succ]; omega
      cases j with
      | zero =>
        refine left ?_
        rw [lc_left] at he ⊢; omega
      | succ j =>
        cases hb : E i j
        · rw [lc_miss hb] at he
          by_cases hc : lc E (i + 1) j ≤ lc E i (j + 1)
          · refine left ?_
            have : max (lc E i (j + 1)) (lc E (i + 1) j) = lc E i (j + 1) := by omega
            rw [this] at he; omega
          · refine above j rfl ?_
            have : max (lc E i (j + 1)) (lc E (i + 1) j) = lc E (i + 1) j := by omega
            rw [this] at he; omega
        · rw [lc_hit hb] at he
          obtain ⟨o1, o2⟩ := ih (i + j) (by omega) i j d rfl (by omega) (by omega)
          have hk : ((i + 1 : Nat) : Int) - ((j + 1 : Nat) : Int) = (i : Int) - j := by omega
          rw [hk]
          by_cases hlt : (i : Int) < G E N (d + 1) ((i : Int) - j)
          · omega
          · have heq : G E N (d + 1) ((i : Int) - j) = i := by omega
            have hst := G_stop hE hN d ((i : Int) - j) o1
            rw [heq, show ((i : Int) - ((i : Int) - j)).toNat = j by omega, show (i : Int).toNat = i by omega] at hst
            rw [hst] at hb; cases hb

/-- Round d stands at the end on diagonal k. -/
def Done (E : Nat → Nat → Bool) (N n m d : Nat) (k : Int) : Prop := (n : Int) ≤ G E N (d + 1) k ∧ (m : Int) ≤ G E N (d + 1) k - k

/-- The number of edits of a shortest script. -/
def dist (E : Nat → Nat → Bool) (n m : Nat) : Nat := n + m - 2 * lc E n m

theorem dist_eq (E n m) : (dist E n m : Int) = n + m - 2 * (lc E n m : Nat) := by
  have := lc_le_i E n m
  have := lc_le_j E n m
  unfold dist; omega

/-- As long as no round has stood at the end, no shorter script than this round's is missed. -/
theorem not_before {E : Nat → Nat → Bool} {n m N : Nat} (hE : ∀ i j, E i j = true → i < n ∧ j < m) (hN : n ≤ N) (d : Nat) (h : ∀ d', d' < d → ∀ k, On d' k → ¬ Done E N n m d' k) : d ≤ dist E n m := by
  refine Nat.le_of_not_lt fun hlt => ?_
  have he := dist_eq E n m
  obtain ⟨o1, o2⟩ := G_opt (fun i j h => (hE i j h).1) hN (n + m) n m (dist E n m) rfl (by omega) (by omega)
  exact h _ hlt _ o1 ⟨o2, by omega⟩

/-- THE FIRST ROUND THAT STANDS AT THE END stands there by a shortest script, just at the end. -/
theorem first_done {E : Nat → Nat → Bool} {n m N : Nat} (hE : ∀ i j, E i j = true → i < n ∧ j < m) (hN : n ≤ N) (d : Nat) (k : Int) (hk : On d k) (hd : Done E N n m d k)
    (h : ∀ d', d' < d → ∀ k, On d' k → ¬ Done E N n m d' k) : d = dist E n m ∧ k = (n : Int) - m ∧ G E N (d + 1) k = n := by
  have h1 := not_before hE hN d h
  have h2 := G_sound E N d k hk
  have h3 := G_nonneg E N d k hk
  have he := dist_eq E n m
  obtain ⟨hd1, hd2⟩ := hd
  have hp := lc_past hE (G E N (d + 1) k).toNat (G E N (d + 1) k - k).toNat (by omega) (by omega)
  rw [hp] at h2
  omega

/-- A script's edits from (i, j) on to the ends (n, m): kind 0 keeps, 1 removes, 2 adds. -/
def Valid (E : Nat → Nat → Bool) (n m : Nat) : Nat → Nat → List (Int × Int × Int) → Prop
  | i, j, [] => i = n ∧ j = m
  | i, j, e :: es => (e = (0, (i : Int), (j : Int)) ∧ E i j = true ∧ Valid E n m (i + 1) (j + 1) es) ∨ (e = (1, (i : Int), 0) ∧ i < n ∧ Valid E n m (i + 1) j es) ∨ (e = (2, 0, (j : Int)) ∧ j < m ∧ Valid E n m i (j + 1) es)

/-- How many edits change something. -/
def chg : List (Int × Int × Int) → Nat
  | [] => 0
  | e :: es => chg es + (if e.1 = 0 then 0 else 1)

theorem chg_append (a b : List (Int × Int × Int)) : chg (a ++ b) = chg a + chg b := by
  induction a with
  | nil => simp [chg]
  | cons e es ih => simp only [List.cons_append, chg, ih]; omega

theorem valid_length {E : Nat → Nat → Bool} {n m : Nat} (hE : ∀ i j, E i j = true → i < n ∧ j < m) (es : List (Int × Int × Int)) : ∀ i j, Valid E n m i j es → i ≤ n ∧ j ≤ m ∧ es.length + i + j ≤ n + m := by
  induction es with
  | nil => intro i j h; simp [Valid] at h; simp; omega
  | cons e es ih =>
    intro i j h
    simp only [Valid] at h
    rcases h with ⟨_, he, h⟩ | ⟨_, he, h⟩ | ⟨_, he, h⟩
    · have := ih _ _ h; have := hE i j he; simp; omega
    · have := ih _ _ h; simp; omega
    · have := ih _ _ h; simp; omega

/-- Between the step's start and the furthest point x and y agree. -/
theorem G_run (E N) (d : Nat) (k : Int) (hk : On d k) (t : Nat) (h1 : pickI (G E N d) d k ≤ t) (h2 : (t : Int) < G E N (d + 1) k) : E t ((t : Int) - k).toNat = true := by
  have hn := G_nonneg E N d k hk
  rw [G_succ] at h2
  have a := hn.1
  have b := hn.2.1
  generalize pickI (G E N d) d k = p at a b h1 h2
  have := sn_all (E := E) N p.toNat (p - k).toNat (t - p.toNat) (by omega)
  rw [show p.toNat + (t - p.toNat) = t by omega, show (p - k).toNat + (t - p.toNat) = ((t : Int) - k).toNat by omega] at this
  exact this

theorem pick_le (E N d k) : pickI (G E N d) d k ≤ G E N (d + 1) k := by rw [G_succ]; omega

/-- The trace-back's step from above. -/
theorem back_up {E : Nat → Nat → Bool} {N d : Nat} {k : Int} (hd : 0 < d) (hk : On d k) (hu : up (G E N d) d k = true) :
    ∃ p q : Nat, G E N d (k + 1) = p ∧ (p : Int) - (k + 1) = q ∧ On (d - 1) (k + 1) ∧ (p : Int) ≤ G E N (d + 1) k ∧ ∀ t : Nat, p ≤ t → (t : Int) < G E N (d + 1) k → E t ((t : Int) - k).toNat = true := by
  obtain ⟨c, rfl⟩ : ∃ c, d = c + 1 := ⟨d - 1, by omega⟩
  have hf := from_up hk hu
  have hn := (G_nonneg E N c _ hf).2.2
  have hp : pickI (G E N (c + 1)) (c + 1) k = G E N (c + 1) (k + 1) := by unfold pickI; rw [hu]; rfl
  have hle := pick_le E N (c + 1) k
  refine ⟨(G E N (c + 1) (k + 1)).toNat, (G E N (c + 1) (k + 1) - (k + 1)).toNat, by omega, by omega, hf, by omega, fun t h1 h2 => G_run E N (c + 1) k hk t (by omega) h2⟩

/-- .. and from the left. -/
theorem back_left {E : Nat → Nat → Bool} {N d : Nat} {k : Int} (hd : 0 < d) (hk : On d k) (hu : up (G E N d) d k = false) :
    ∃ p q : Nat, G E N d (k - 1) = p ∧ (p : Int) - (k - 1) = q ∧ On (d - 1) (k - 1) ∧ (p : Int) + 1 ≤ G E N (d + 1) k ∧ ∀ t : Nat, p + 1 ≤ t → (t : Int) < G E N (d + 1) k → E t ((t : Int) - k).toNat = true := by
  obtain ⟨c, rfl⟩ : ∃ c, d = c + 1 := ⟨d - 1, by omega⟩
  have hf := from_right hk hu
  have hn := (G_nonneg E N c _ hf).2.2
  have hp : pickI (G E N (c + 1)) (c + 1) k = G E N (c + 1) (k - 1) + 1 := by unfold pickI; rw [hu]; rfl
  have hle := pick_le E N (c + 1) k
  refine ⟨(G E N (c + 1) (k - 1)).toNat, (G E N (c + 1) (k - 1) - (k - 1)).toNat, by omega, by omega, hf, by omega, fun t h1 h2 => G_run E N (c + 1) k hk t (by omega) h2⟩

theorem chg_reverse (a : List (Int × Int × Int)) : chg a.reverse = chg a := by
  induction a with
  | nil => rfl
  | cons e es ih => rw [List.reverse_cons, chg_append, ih]; simp [chg]

/-- The first round's run. -/
theorem run_zero {E : Nat → Nat → Bool} {N i j : Nat} (h : On 0 ((i : Int) - j)) (hG : G E N 1 ((i : Int) - j) = i) : i = j ∧ ∀ t, t < i → E t t = true := by
  have h0 := on_zero h
  refine ⟨by omega, fun t ht => ?_⟩
  have e : pickI (G E N 0) 0 0 = 0 := by unfold pickI; rw [up_low (by simp)]; rfl
  rw [h0] at hG h
  have := G_run E N 0 0 h t (by rw [e]; omega) (by rw [hG]; omega)
  rwa [show ((t : Int) - 0).toNat = t by omega] at this

end Go.Proofs.Qxb6601753a.Plain
