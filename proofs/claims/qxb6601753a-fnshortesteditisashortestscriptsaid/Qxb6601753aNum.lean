import Derived.Test.Qxb6601753aMyers
/-
  The numbers' side of the search: what holds ahead of a round, inside a round; no Go in sight.
-/
namespace Go.Proofs.Qxb6601753a
open Plain
set_option linter.unusedVariables false

/-- The numbers' side of the search, ahead of round d. -/
structure Inv (E : Nat → Nat → Bool) (n m sh : Nat) (B : Int) (d : Nat) (b s : Int) (F : Int → Int) (S : Nat → Int → Int) : Prop where
  bud : b = B - (d : Int) * d - s
  s0 : 0 ≤ s
  s1 : 2 * s ≤ ((d * (d + 1) * sh : Nat) : Int)
  lo : -1099511627776 ≤ b
  hi : b ≤ B
  path : 1 ≤ d → ∀ k, On (d - 1) k → 2 * G E n d k - k - ((d : Int) - 1) ≤ 2 * s
  zero : d = 0 → s = 0
  notyet : ∀ d', d' < d → ∀ k, On d' k → ¬ Done E n n m d' k
  fval : ∀ k, d = 0 ∨ On (d - 1) k → F k = G E n d k
  fbd : ∀ k, 0 ≤ F k ∧ F k ≤ (n : Int) + d
  trc : ∀ t, 1 ≤ t → t < d → ∀ k, On (t - 1) k → S t k = G E n t k

/-- .. and inside round d, c diagonals done; F, s, b0: as they stood when the round began. -/
structure InvK (E : Nat → Nat → Bool) (n m sh : Nat) (d c : Nat) (b0 b s s' : Int) (F F' : Int → Int) : Prop where
  bud : b = b0 - s'
  s0 : 0 ≤ s'
  s1 : s' ≤ ((c * sh : Nat) : Int)
  zero : c = 0 → s' = 0
  done : ∀ k, On d k → k < -(d : Int) + 2 * c → F' k = G E n (d + 1) k ∧ ¬ Done E n n m d k ∧ 2 * G E n (d + 1) k - k - d ≤ 2 * (s + s')
  other : ∀ k, (k - (d : Int)) % 2 = 1 → F' k = F k
  fbd : ∀ k, 0 ≤ F' k ∧ F' k ≤ (n : Int) + d + 1

theorem sq_succ (d : Nat) : ((d + 1 : Nat) : Int) * ((d + 1 : Nat) : Int) = (d : Int) * d + (2 * d + 1) := by
  have e : ((d + 1 : Nat) : Int) = (d : Int) + 1 := by omega
  rw [e, Int.add_mul, Int.mul_add]; omega

section
variable {E : Nat → Nat → Bool} {n m sh : Nat} {B : Int} {d c : Nat} {b b' s s' : Int} {F F' : Int → Int} {S : Nat → Int → Int}

theorem InvK.start (h : Inv E n m sh B d b s F S) (b0 : Int) : InvK E n m sh d 0 b0 b0 s 0 F F :=
  ⟨by omega, by omega, by simp, fun _ => rfl, fun k hk hlt => by unfold On at hk; omega, fun _ _ => rfl, fun k => by have := h.fbd k; omega⟩

theorem Inv.next (h : Inv E n m sh B d b s F S) (hsh : sh ≤ 65536) (hd : d ≤ 131072) (h0 : 0 ≤ b - (2 * d + 1)) (hk : InvK E n m sh d (d + 1) (b - (2 * d + 1)) b' s s' F F') :
    Inv E n m sh B (d + 1) b' (s + s') F' (fun t => if t = d then F else S t) where
  bud := by rw [sq_succ, hk.bud, h.bud]; omega
  s0 := by have := h.s0; have := hk.s0; omega
  s1 := by
    have e : (d + 1) * (d + 1 + 1) * sh = d * (d + 1) * sh + 2 * ((d + 1) * sh) := by
      rw [Nat.mul_add (d + 1) (d + 1) 1, Nat.mul_one, Nat.add_mul, Nat.add_mul d 1 (d + 1), Nat.add_mul, Nat.one_mul]; omega
    have h1 := h.s1; have h2 := hk.s1
    rw [e]; omega
  lo := by
    have h1 := hk.bud; have h2 := hk.s1
    have h3 : (d + 1) * sh ≤ 131073 * 65536 := Nat.mul_le_mul (by omega) hsh
    omega
  hi := by have h1 := hk.bud; have h2 := hk.s0; have h3 := h.hi; omega
  path := fun _ k hon => by
    have := (hk.done k hon (by unfold On at hon; omega)).2.2
    rw [show ((d + 1 : Nat) : Int) - 1 = d by omega]; exact this
  zero := fun h => by omega
  notyet := fun d' hd' k hon => by
    by_cases e : d' = d
    · subst e; exact (hk.done k hon (by unfold On at hon; omega)).2.1
    · exact h.notyet d' (by omega) k hon
  fval := fun k hon => by
    rcases hon with h | hon
    · omega
    · exact (hk.done k hon (by unfold On at hon; omega)).1
  fbd := fun k => by have := hk.fbd k; omega
  trc := fun t h1 h2 k hon => by
    by_cases e : t = d
    · subst e; simp only [if_true]; exact h.fval k (.inr hon)
    · simp only [if_neg e]; exact h.trc t h1 (by omega) k hon

/-- The diagonal that comes next. -/
theorem on_next (hc : c ≤ d) : On d (-(d : Int) + 2 * c) := by unfold On; omega

/-- The neighbours that the step reads hold the round before's points. -/
theorem read_up (h : Inv E n m sh B d b s F S) {b0 : Int} (hk : InvK E n m sh d c b0 b' s s' F F') {k : Int} (hon : On d k) (hne : ¬ k = (d : Int) ∨ d = 0) : F' (k + 1) = G E n d (k + 1) := by
  rw [hk.other _ (by unfold On at hon; omega)]
  refine h.fval _ ?_
  by_cases e : d = 0
  · exact .inl e
  · exact .inr (by unfold On at *; omega)
theorem read_left (h : Inv E n m sh B d b s F S) {b0 : Int} (hk : InvK E n m sh d c b0 b' s s' F F') {k : Int} (hon : On d k) (hne : ¬ k = -(d : Int)) : F' (k - 1) = G E n d (k - 1) := by
  rw [hk.other _ (by unfold On at hon; omega)]
  refine h.fval _ ?_
  exact .inr (by unfold On at *; omega)

theorem pick_true (h : Inv E n m sh B d b s F S) {b0 : Int} (hk : InvK E n m sh d c b0 b' s s' F F') {k : Int} (hon : On d k) (hu : up (G E n d) d k = true) : F' (k + 1) = pickI (G E n d) d k := by
  have : pickI (G E n d) d k = G E n d (k + 1) := by unfold pickI; rw [hu]; rfl
  rw [this]
  refine read_up h hk hon ?_
  by_cases e : d = 0
  · exact .inr e
  · refine .inl fun e2 => ?_
    rw [up_high e2 (by omega)] at hu; cases hu
theorem pick_false (h : Inv E n m sh B d b s F S) {b0 : Int} (hk : InvK E n m sh d c b0 b' s s' F F') {k : Int} (hon : On d k) (hu : up (G E n d) d k = false) : F' (k - 1) + 1 = pickI (G E n d) d k := by
  have : pickI (G E n d) d k = G E n d (k - 1) + 1 := by unfold pickI; rw [hu]; rfl
  rw [this, read_left h hk hon (fun e => by rw [up_low e] at hu; cases hu)]

/-- The step's start lies on the paths that have been paid for. -/
theorem pick_path (h : Inv E n m sh B d b s F S) {k : Int} (hon : On d k) : 2 * pickI (G E n d) d k - k - d ≤ 2 * s := by
  cases d with
  | zero =>
    obtain rfl := on_zero hon
    have e : pickI (G E n 0) 0 0 = 0 := by unfold pickI; rw [up_low (by simp)]; rfl
    have := h.s0
    rw [e]; omega
  | succ d =>
    cases hu : up (G E n (d + 1)) (d + 1) k
    · have : pickI (G E n (d + 1)) (d + 1) k = G E n (d + 1) (k - 1) + 1 := by unfold pickI; rw [hu]; rfl
      have hp := h.path (by omega) (k - 1) (from_right hon hu)
      rw [this]; omega
    · have : pickI (G E n (d + 1)) (d + 1) k = G E n (d + 1) (k + 1) := by unfold pickI; rw [hu]; rfl
      have hp := h.path (by omega) (k + 1) (from_up hon hu)
      rw [this]; omega

theorem pick_bd (h : Inv E n m sh B d b s F S) {k : Int} (hon : On d k) : pickI (G E n d) d k ≤ (n : Int) + d + 1 := by
  cases hu : up (G E n d) d k
  · have e : pickI (G E n d) d k = G E n d (k - 1) + 1 := by unfold pickI; rw [hu]; rfl
    have e2 : ¬ k = -(d : Int) := fun e => by rw [up_low e] at hu; cases hu
    have e3 := h.fval (k - 1) (.inr (by unfold On at *; omega))
    have := h.fbd (k - 1)
    rw [e, ← e3]; omega
  · have e : pickI (G E n d) d k = G E n d (k + 1) := by unfold pickI; rw [hu]; rfl
    have e3 : F (k + 1) = G E n d (k + 1) := by
      refine h.fval (k + 1) ?_
      by_cases e0 : d = 0
      · exact .inl e0
      · have : ¬ k = (d : Int) := fun e2 => by rw [up_high e2 (by omega)] at hu; cases hu
        exact .inr (by unfold On at *; omega)
    have := h.fbd (k + 1)
    rw [e, ← e3]; omega

theorem InvK.next (h : Inv E n m sh B d b s F S) {b0 : Int} (hk : InvK E n m sh d c b0 b' s s' F F') {k : Int} (hc : c ≤ d) (hkc : k = -(d : Int) + 2 * c) (t p : Nat) (hp : pickI (G E n d) d k = p) (hg : G E n (d + 1) k = (p : Int) + t) (ht : t ≤ sh) (hbd : (p : Int) + t ≤ (n : Int) + d + 1)
    (hnd : ¬ Done E n n m d k) : InvK E n m sh d (c + 1) b0 (b' - t) s (s' + t) F (fun x => if x = k then (p : Int) + t else F' x) where
  bud := by rw [hk.bud]; omega
  s0 := by have := hk.s0; omega
  s1 := by have := hk.s1; rw [Nat.add_mul, Nat.one_mul]; omega
  zero := fun h => by omega
  done := fun x hon hlt => by
    by_cases e : x = k
    · subst e
      have hpp := pick_path h hon
      have h0 := hk.s0
      simp only [if_true]
      exact ⟨hg.symm, hnd, by rw [hg]; omega⟩
    · have hx : x < -(d : Int) + 2 * c := by unfold On at hon; omega
      have := hk.done x hon hx
      simp only [if_neg e]
      exact ⟨this.1, this.2.1, by omega⟩
  other := fun x hx => by
    rw [if_neg (by omega)]; exact hk.other x hx
  fbd := fun x => by
    by_cases e : x = k
    · simp only [if_pos e]; omega
    · simp only [if_neg e]; exact hk.fbd x
/-- The end: what the budget holds when the ends are reached. -/
theorem fin_num (h : Inv E n m sh B d b s F S) (hk : InvK E n m sh d c (b - (2 * d + 1)) b' s s' F F') {k : Int} (hc : c ≤ d) (hon : On d k) (t p : Nat) (h0 : 0 ≤ b - (2 * d + 1)) (hp : pickI (G E n d) d k = p)
    (hdist : d = dist E n m) (hkn : k = (n : Int) - m) (hend : (p : Int) + t = n) (ht : t ≤ sh) :
    b' - t = B - ((d + 1 : Nat) : Int) * ((d + 1 : Nat) : Int) - (s + s' + t) ∧ ((d + 1 : Nat) : Int) * ((d + 1 : Nat) : Int) ≤ B ∧ (lc E n m : Nat) ≤ s + s' + t ∧ 2 * (s + s' + t) ≤ (((d + 1) * (d + 2) * sh : Nat) : Int) ∧ (d = 0 → s + s' + t = n) := by
  have e1 := h.bud
  have e2 := hk.bud
  have e3 := h.s0
  have e4 := hk.s0
  have e5 := pick_path h hon
  have e6 := dist_eq E n m
  have e7 := h.s1
  have e8 := hk.s1
  have e9 : (d + 1) * (d + 2) * sh = d * (d + 1) * sh + 2 * ((d + 1) * sh) := by
    rw [show d + 2 = d + 1 + 1 by rfl, Nat.mul_add (d + 1) (d + 1) 1, Nat.mul_one, Nat.add_mul, Nat.add_mul d 1 (d + 1), Nat.add_mul, Nat.one_mul]; omega
  have e10 : (c + 1) * sh ≤ (d + 1) * sh := Nat.mul_le_mul_right _ (by omega)
  have e11 : (c + 1) * sh = c * sh + sh := by rw [Nat.add_mul, Nat.one_mul]
  rw [hp] at e5
  refine ⟨by rw [sq_succ]; omega, by rw [sq_succ]; omega, by omega, by rw [e9]; omega, fun hd0 => ?_⟩
  have z1 := h.zero hd0
  have z2 := hk.zero (by omega)
  subst hd0
  obtain rfl := on_zero hon
  have e : pickI (G E n 0) 0 0 = 0 := by unfold pickI; rw [up_low (by simp)]; rfl
  omega

theorem trace_vals (h : Inv E n m sh B d b s F S) (t : Nat) (h1 : 1 ≤ t) (h2 : t ≤ d) (k : Int) (hon : On (t - 1) k) : (fun t => if t = d then F else S t) t k = G E n t k := by
  by_cases e : t = d
  · subst e; simp only [if_true]; exact h.fval k (.inr hon)
  · simp only [if_neg e]; exact h.trc t h1 (by omega) k hon

theorem bud_lo (hk : InvK E n m sh d c (b - (2 * d + 1)) b' s s' F F') (h0 : 0 ≤ b - (2 * d + 1)) (hc : c ≤ d) (hd : d ≤ 131072) (hsh : sh ≤ 65536) : -8600000000 ≤ b' ∧ b' ≤ b := by
  have h1 := hk.bud; have h2 := hk.s1; have h4 := hk.s0
  have h3 : c * sh ≤ 131072 * 65536 := Nat.mul_le_mul (by omega) hsh
  omega

/-- The furthest point, as the loop over equals has found it. -/
theorem G_of_run {E : Nat → Nat → Bool} {n m : Nat} (hE : ∀ i j, E i j = true → i < n ∧ j < m) {d : Nat} {k : Int} {p q t : Nat} (hp : pickI (G E n d) d k = p) (hq : (p : Int) - k = q) (hall : ∀ u, u < t → E (p + u) (q + u) = true) (hend : E (p + t) (q + t) = false) :
    G E n (d + 1) k = (p : Int) + t := by
  have := sn_unique (fun i j h => (hE i j h).1) n p q t (by omega) hall hend
  rw [G_succ, hp, show (p : Int).toNat = p by omega, show ((p : Int) - k).toNat = q by omega, this]
end
end Go.Proofs.Qxb6601753a
