import Derived.Test.Qxb6601455aPlan1
namespace Go.Proofs.Qxb6601455a
/-- The pids of the member locks among the first k. -/
def memL (P K : Array Int) : Nat → List Int
  | 0 => []
  | k + 1 => memL P K k ++ (if K[k]! = -1 then [P[k]!] else [])

theorem memL_len (P K : Array Int) (k : Nat) : (memL P K k).length ≤ k := by
  induction k with
  | zero => simp [memL]
  | succ k ih => simp only [memL, List.length_append]; split <;> simp <;> omega

theorem memL_mem (P K : Array Int) (k : Nat) (x : Int) : x ∈ memL P K k ↔ ∃ t, t < k ∧ K[t]! = -1 ∧ P[t]! = x := by
  induction k with
  | zero => simp [memL]
  | succ k ih =>
    simp only [memL, List.mem_append, ih]
    constructor
    · rintro (⟨t, h1, h2, h3⟩ | h)
      · exact ⟨t, by omega, h2, h3⟩
      · split at h
        · simp at h; exact ⟨k, by omega, by assumption, h.symm⟩
        · simp at h
    · rintro ⟨t, h1, h2, h3⟩
      by_cases e : t = k
      · subst e; right; rw [if_pos h2]; simp [h3]
      · left; exact ⟨t, by omega, h2, h3⟩

theorem memb_eq (P K : Array Int) (pid : Int) (k : Nat) : memb P K pid k = pid :: (memL P K k).filter (fun x => decide (x ≠ pid)) := by
  induction k with
  | zero => simp [memb, memL]
  | succ k ih =>
    simp only [memb, memL, ih, List.filter_append, List.cons_append]
    congr 2
    by_cases h : K[k]! = -1
    · by_cases h2 : P[k]! = pid
      · simp [h, h2]
      · simp [h, h2]
    · simp [h]

theorem nodup_len (l : List Int) (hn : l.Nodup) (x : Int) (hx : x ∈ l) : (l.filter (fun y => decide (y ≠ x))).length + 1 = l.length := by
  induction l with
  | nil => simp at hx
  | cons a l ih =>
    rw [List.nodup_cons] at hn
    by_cases h : a = x
    · subst h
      have : l.filter (fun y => decide (y ≠ a)) = l := by
        rw [List.filter_eq_self]; intro b hb; simp; rintro rfl; exact hn.1 hb
      rw [List.filter_cons, if_neg (by simp), this, List.length_cons]
    · have hx' : x ∈ l := by simpa [Ne.symm h] using hx
      have := ih hn.2 hx'
      simp only [List.filter_cons, ne_eq, h, not_false_eq_true, decide_true, if_true, List.length_cons]
      simp only [ne_eq] at this
      omega

theorem rank_memb (P K : Array Int) (pid : Int) (k : Nat) : rankOf (memb P K pid k) pid = rankOf (memL P K k) pid := by
  rw [memb_eq]
  unfold rankOf
  rw [List.filter_cons]
  simp only [Int.lt_irrefl, decide_false, List.filter_filter]
  congr 1
  simp only [Bool.false_eq_true, if_false]
  apply List.filter_congr
  intro x _
  by_cases h : x < pid
  · have : x ≠ pid := by omega
    simp [h, this]
  · simp [h]

theorem share_memb (P K : Array Int) (pid : Int) (k : Nat) (hn : (memL P K k).Nodup) (hp : pid ∈ memL P K k) :
    (memb P K pid k).length = (memL P K k).length ∧ shareOf (memb P K pid k) pid = shareOf (memL P K k) pid := by
  have e : (memb P K pid k).length = (memL P K k).length := by rw [memb_eq, List.length_cons, nodup_len _ hn _ hp]
  exact ⟨e, by unfold shareOf; rw [rank_memb, e]⟩

theorem range_sum (q r : Int) (m : Nat) (hr : 0 ≤ r) : ((List.range m).map (fun (t : Nat) => q + if (t : Int) < r then 1 else 0)).sum = m * q + min r m := by
  induction m with
  | zero => simp; omega
  | succ m ih =>
    rw [List.range_succ, List.map_append, List.sum_append, ih]
    simp only [List.map_cons, List.map_nil, List.sum_cons, List.sum_nil]
    rw [show ((m + 1 : Nat) : Int) * q = m * q + q by rw [Int.natCast_succ, Int.add_mul, Int.one_mul]]
    split <;> omega

theorem perm_sum {l s : List Int} (h : l.Perm s) : l.sum = s.sum := by
  induction h with
  | nil => rfl
  | cons x _ ih => simp [ih]
  | swap x y l => simp; omega
  | trans _ _ h1 h2 => exact h1.trans h2

theorem share_sum (l : List Int) (hn : l.Nodup) (hpos : l ≠ []) : (l.map (shareOf l)).sum = 64 := by
  let s := l.mergeSort (fun a b => decide (a ≤ b))
  have hp : s.Perm l := List.mergeSort_perm _ _
  have hs : s.Pairwise (· ≤ ·) := by
    have := List.pairwise_mergeSort (le := fun (a b : Int) => decide (a ≤ b)) (by intro a b c; simp; omega) (by intro a b; simp; omega) l
    exact this.imp (by intro a b h; simpa using h)
  have hsn : s.Nodup := hp.nodup_iff.mpr hn
  have hsh : ∀ x, shareOf l x = shareOf s x := by
    intro x; unfold shareOf rankOf; rw [(hp.filter _).length_eq, hp.length_eq]
  have e1 : (l.map (shareOf l)).sum = (s.map (shareOf s)).sum := by
    rw [perm_sum (hp.symm.map (shareOf l))]
    congr 1
    exact List.map_congr_left (fun x _ => hsh x)
  have hlt : ∀ t t', t < s.length → t' < s.length → (s.getD t 0 < s.getD t' 0 ↔ t < t') := by
    intro t t' ht ht'
    simp only [List.getD_eq_getElem?_getD, List.getElem?_eq_getElem ht, List.getElem?_eq_getElem ht', Option.getD_some]
    have hmono : ∀ a b (ha : a < s.length) (hb : b < s.length), a < b → s[a] < s[b] := by
      intro a b ha hb hab
      have h1 := List.pairwise_iff_getElem.mp hs a b ha hb hab
      have h2 : s[a] ≠ s[b] := List.pairwise_iff_getElem.mp hsn a b ha hb hab
      omega
    constructor
    · intro h
      rcases Nat.lt_trichotomy t t' with h1 | h1 | h1
      · exact h1
      · subst h1; omega
      · have := hmono t' t ht' ht h1; omega
    · exact hmono t t' ht ht'
  have hrank : ∀ t, t < s.length → rankOf s (s.getD t 0) = t := by
    intro t ht
    have hle : rankOf s (s.getD t 0) ≤ s.length := List.length_filter_le _ _
    rcases Nat.lt_trichotomy (rankOf s (s.getD t 0)) t with h | h | h
    · have h2 := (hlt (rankOf s (s.getD t 0)) t (by omega) ht).mpr h
      exact absurd ((sorted_prefix (s.getD t 0) s hs (rankOf s (s.getD t 0)) (by omega)).mp h2) (Nat.lt_irrefl _)
    · exact h
    · have := (sorted_prefix (s.getD t 0) s hs t ht).mpr h
      omega
  have e2 : s.map (shareOf s) = (List.range s.length).map (fun (t : Nat) => 64 / (s.length : Int) + if (t : Int) < 64 % (s.length : Int) then 1 else 0) := by
    apply List.ext_getElem
    · simp
    · intro t h1 h2
      have ht : t < s.length := by simpa using h1
      have := hrank t ht
      rw [List.getD_eq_getElem?_getD, List.getElem?_eq_getElem ht, Option.getD_some] at this
      simp only [List.getElem_map, List.getElem_range, shareOf, this]
  have hm : 0 < s.length := by rw [hp.length_eq]; exact List.length_pos_iff.mpr hpos
  have hmod := Int.emod_nonneg 64 (b := (s.length : Int)) (by omega)
  have hmod2 := Int.emod_lt_of_pos 64 (b := (s.length : Int)) (by omega)
  rw [e1, e2, range_sum _ _ _ hmod]
  have := Int.mul_ediv_add_emod 64 (s.length : Int)
  omega

theorem share_mono (l : List Int) (p q : Int) (h : p < q) : ¬ shareOf l p < shareOf l q := by
  have hr : rankOf l p ≤ rankOf l q := by
    unfold rankOf
    induction l with
    | nil => simp
    | cons a l ih =>
      simp only [List.filter_cons]
      by_cases h1 : a < p
      · have h2 : a < q := by omega
        simp [h1, h2]; exact ih
      · by_cases h2 : a < q
        · simp [h1, h2]; omega
        · simp [h1, h2]; exact ih
  unfold shareOf
  split <;> split <;> omega

theorem share_two (l : List Int) (p : Int) : shareOf l p = 64 / (l.length : Int) ∨ shareOf l p = 64 / (l.length : Int) + 1 := by
  unfold shareOf; split <;> omega
end Go.Proofs.Qxb6601455a
