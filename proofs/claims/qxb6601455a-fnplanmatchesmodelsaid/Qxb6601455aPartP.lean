import Derived.Sort.AssemblyPlain
/-
  The two partitions' invariants: plain, no Go in sight.
-/
namespace Go.Proofs.Qxb6601455a
open Go.Sort (swp ltInt PermIn SortedIn)
set_option linter.unusedVariables false

/-- Ahead of i all that 'lo' says of p; behind j all that 'hi' says; p itself at a. -/
structure PInv (lo hi : Int → Prop) (d : Array Int) (p : Int) (a b i j : Nat) (dk : Array Int) : Prop where
  ai : a < i
  ij : i ≤ j + 1
  jb : j < b
  perm : PermIn a b d dk
  piv : dk[a]! = p
  left : ∀ t, a < t → t < i → lo dk[t]!
  right : ∀ t, j < t → t < b → hi dk[t]!

section
variable {lo hi : Int → Prop} {d : Array Int} {p : Int} {a b i j : Nat} {dk : Array Int}

theorem PInv.start {pivot : Nat} (hp : a ≤ pivot) (hp2 : pivot < b) (hb : b ≤ d.size) : PInv lo hi d d[pivot]! a b (a + 1) (b - 1) (swp d a pivot) where
  ai := by omega
  ij := by omega
  jb := by omega
  perm := Sort.swp_permIn _ _ _ _ _ (by omega) (by omega) (by omega) (by omega) hb
  piv := by
    by_cases e : a = pivot
    · subst e; exact Sort.swp_right _ _ _ (by omega)
    · exact Sort.swp_left _ _ _ (by omega) e
  left := fun t h1 h2 => by omega
  right := fun t h1 h2 => by omega

theorem PInv.up (h : PInv lo hi d p a b i j dk) (hij : i ≤ j) (hl : lo dk[i]!) : PInv lo hi d p a b (i + 1) j dk :=
  ⟨by have := h.ai; omega, by omega, h.jb, h.perm, h.piv, fun t h1 h2 => by
    by_cases e : t = i
    · subst e; exact hl
    · exact h.left t h1 (by omega), h.right⟩
theorem PInv.down (h : PInv lo hi d p a b i j dk) (hij : i ≤ j) (hl : hi dk[j]!) : PInv lo hi d p a b i (j - 1) dk :=
  ⟨h.ai, by omega, by have := h.jb; omega, h.perm, h.piv, h.left, fun t h1 h2 => by
    by_cases e : t = j
    · subst e; exact hl
    · exact h.right t (by have := h.ai; omega) h2⟩
theorem PInv.swap (h : PInv lo hi d p a b i j dk) (hb : b ≤ d.size) (hij : i < j) (hl : lo dk[j]!) (hr : hi dk[i]!) : PInv lo hi d p a b (i + 1) (j - 1) (swp dk i j) where
  ai := by have := h.ai; omega
  ij := by omega
  jb := by have := h.jb; omega
  perm := Sort.permIn_trans _ _ _ _ _ h.perm (Sort.swp_permIn _ _ _ _ _ (by have := h.ai; omega) (by have := h.jb; omega) (by have := h.ai; omega) h.jb (by rw [h.perm.1]; exact hb))
  piv := by rw [Sort.swp_other _ _ _ _ (by have := h.ai; omega) (by have := h.ai; omega)]; exact h.piv
  left := fun t h1 h2 => by
    have hs := h.perm.1
    have hjb := h.jb
    by_cases e : t = i
    · subst e; rw [Sort.swp_left _ _ _ (by omega) (by omega)]; exact hl
    · rw [Sort.swp_other _ _ _ _ e (by omega)]; exact h.left t h1 (by omega)
  right := fun t h1 h2 => by
    have hs := h.perm.1
    have hjb := h.jb
    have hai := h.ai
    by_cases e : t = j
    · subst e; rw [Sort.swp_right _ _ _ (by omega)]; exact hr
    · rw [Sort.swp_other _ _ _ _ (by omega) e]; exact h.right t (by omega) h2

/-- What partition leaves. -/
theorem PInv.part (h : PInv (fun x => ltInt x p = true) (fun x => ltInt x p = false) d p a b i j dk) (hb : b ≤ d.size) (hij : j < i) :
    a ≤ j ∧ j < b ∧ PermIn a b d (swp dk j a) ∧ (∀ t, a ≤ t → t < j → ltInt (swp dk j a)[t]! (swp dk j a)[j]! = true) ∧ (∀ t, j < t → t < b → ltInt (swp dk j a)[t]! (swp dk j a)[j]! = false) := by
  have hs := h.perm.1
  have hjb := h.jb
  have hai := h.ai
  have h2 := h.ij
  have hpj : (swp dk j a)[j]! = p := by
    by_cases e : j = a
    · subst e; rw [Sort.swp_right _ _ _ (by omega)]; exact h.piv
    · rw [Sort.swp_left _ _ _ (by omega) e]; exact h.piv
  refine ⟨by omega, hjb, Sort.permIn_trans _ _ _ _ _ h.perm (Sort.swp_permIn _ _ _ _ _ (by omega) hjb (by omega) (by omega) (by omega)), fun t h3 h4 => ?_, fun t h3 h4 => ?_⟩
  · rw [hpj]
    by_cases e : t = a
    · subst e
      rw [Sort.swp_right _ _ _ (by omega)]
      exact h.left j (by omega) (by omega)
    · rw [Sort.swp_other _ _ _ _ (by omega) e]
      exact h.left t (by omega) (by omega)
  · rw [hpj, Sort.swp_other _ _ _ _ (by omega) (by omega)]
    exact h.right t h3 h4
end
end Go.Proofs.Qxb6601455a
