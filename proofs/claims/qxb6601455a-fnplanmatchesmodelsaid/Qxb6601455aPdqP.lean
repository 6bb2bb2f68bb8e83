import Derived.Test.Qxb6601455aBreak
namespace Go.Proofs.Qxb6601455a
open Go.Sort (swp ltInt PermIn SortedIn swo_ltInt)
set_option linter.unusedVariables false

/-- Ahead of a round of the sort: what is left to sort is the part from a to b. -/
structure KInv (d : Array Int) (a0 b0 a b : Nat) (dk : Array Int) : Prop where
  lo : a0 ≤ a
  le : a ≤ b
  hi : b ≤ b0
  size : dk.size = d.size
  below : Sort.Below ltInt a b dk
  done : ∀ d', PermIn a b dk d' → SortedIn ltInt a b d' → PermIn a0 b0 d d' ∧ SortedIn ltInt a0 b0 d'

theorem KInv.start {d : Array Int} {a b : Nat} (h : a ≤ b) (hB : Sort.Below ltInt a b d) : KInv d a b a b d := ⟨Nat.le_refl _, h, Nat.le_refl _, rfl, hB, fun _ h1 h2 => ⟨h1, h2⟩⟩

theorem KInv.perm {d : Array Int} {a0 b0 a b : Nat} {dk dk' : Array Int} (h : KInv d a0 b0 a b dk) (hb : b0 ≤ d.size) (hp : PermIn a b dk dk') : KInv d a0 b0 a b dk' :=
  ⟨h.lo, h.le, h.hi, hp.1.trans h.size, Sort.Below.perm h.below (by have := h.hi; have := h.size; omega) hp, fun d' h1 h2 => h.done d' (Sort.permIn_trans _ _ _ _ _ hp h1) h2⟩

theorem KInv.eq {d : Array Int} {a0 b0 a b : Nat} {dk : Array Int} (h : KInv d a0 b0 a b dk) (hb : b0 ≤ d.size) {pivot mid : Nat} {d2 : Array Int} (ha : 0 < a) (hap : a ≤ pivot) (hpb : pivot < b)
    (hle : ltInt dk[a - 1]! dk[pivot]! = false) (hp : PermIn a b dk d2) (h1 : a < mid) (h2 : mid ≤ b) (h3 : ∀ t, a ≤ t → t < mid → ltInt dk[pivot]! d2[t]! = false) (h4 : ∀ t, mid ≤ t → t < b → ltInt dk[pivot]! d2[t]! = true) : KInv d a0 b0 mid b d2 := by
  have hhi := h.hi
  have hlo := h.lo
  have hs := h.size
  have hs2 : d2.size = dk.size := hp.1
  have hB : ∀ i, a ≤ i → i < b → ltInt dk[i]! dk[a - 1]! = false := by
    rcases h.below with h0 | h0
    · omega
    · exact h0
  have hB2 : ∀ i, a ≤ i → i < b → ltInt d2[i]! dk[a - 1]! = false := Sort.permIn_all dk d2 a b (fun x => ltInt x dk[a - 1]! = false) (by omega) hp hB
  refine ⟨by omega, h2, hhi, by omega, .inr fun i hi1 hi2 => ?_, fun d' q1 q2 => h.done d' ?_ ?_⟩
  · have e1 := h4 i hi1 hi2
    have e2 := h3 (mid - 1) (by omega) (by omega)
    cases hc : ltInt d2[i]! d2[mid - 1]! with
    | false => rfl
    | true => have := swo_ltInt.trans _ _ _ e1 hc; rw [e2] at this; cases this
  · exact Sort.permIn_trans _ _ _ _ _ hp (Sort.permIn_mono _ _ _ _ _ _ (by omega) (Nat.le_refl _) (by omega) q1)
  · refine Sort.sorted_glue_eq swo_ltInt dk[pivot]! q2 (fun i i1 i2 => ?_) (fun i i1 i2 => ?_) (Sort.permIn_all d2 d' mid b (fun x => ltInt dk[pivot]! x = true) (by omega) q1 h4)
    · rw [q1.2.1 i (.inl i2)]; exact h3 i i1 i2
    · rw [q1.2.1 i (.inl i2)]; exact swo_ltInt.ntrans _ _ _ (hB2 i i1 (by omega)) hle

theorem KInv.left {d : Array Int} {a0 b0 a b : Nat} {d2 : Array Int} (h : KInv d a0 b0 a b d2) (hb : b0 ≤ d.size) {mid : Nat} {d3 : Array Int} (h1 : a ≤ mid) (h2 : mid < b)
    (h3 : ∀ t, a ≤ t → t < mid → ltInt d2[t]! d2[mid]! = true) (h4 : ∀ t, mid < t → t < b → ltInt d2[t]! d2[mid]! = false) (hp : PermIn a mid d2 d3) (hs3 : SortedIn ltInt a mid d3) : KInv d a0 b0 (mid + 1) b d3 := by
  have hhi := h.hi
  have hlo := h.lo
  have hs := h.size
  have hs2 : d3.size = d2.size := hp.1
  have em : d3[mid]! = d2[mid]! := hp.2.1 mid (.inr (Nat.le_refl _))
  have h3' : ∀ t, a ≤ t → t < mid → ltInt d3[t]! d2[mid]! = true := Sort.permIn_all d2 d3 a mid (fun x => ltInt x d2[mid]! = true) (by omega) hp h3
  have h4' : ∀ t, mid + 1 ≤ t → t < b → ltInt d3[t]! d2[mid]! = false := fun t t1 t2 => by rw [hp.2.1 t (.inr (by omega))]; exact h4 t (by omega) t2
  refine ⟨by omega, by omega, hhi, by omega, .inr fun i i1 i2 => ?_, fun d' q1 q2 => h.done d' ?_ ?_⟩
  · rw [Nat.add_sub_cancel, em]; exact h4' i i1 i2
  · exact Sort.permIn_trans _ _ _ _ _ (Sort.permIn_mono _ _ _ _ _ _ (Nat.le_refl _) (by omega) (by omega) hp) (Sort.permIn_mono _ _ _ _ _ _ (by omega) (Nat.le_refl _) (by omega) q1)
  · have em' : d'[mid]! = d2[mid]! := (q1.2.1 mid (.inl (by omega))).trans em
    refine Sort.sorted_glue swo_ltInt (mid := mid) (Sort.SortedIn.congr hs3 fun i i1 i2 => q1.2.1 i (.inl (by omega))) q2 (fun i i1 i2 => ?_) (fun i i1 i2 => ?_)
    · rw [em', q1.2.1 i (.inl (by omega))]; exact h3' i i1 i2
    · rw [em']; exact Sort.permIn_all d3 d' (mid + 1) b (fun x => ltInt x d2[mid]! = false) (by omega) q1 h4' i i1 i2

theorem KInv.right {d : Array Int} {a0 b0 a b : Nat} {d2 : Array Int} (h : KInv d a0 b0 a b d2) (hb : b0 ≤ d.size) {mid : Nat} {d3 : Array Int} (h1 : a ≤ mid) (h2 : mid < b)
    (h3 : ∀ t, a ≤ t → t < mid → ltInt d2[t]! d2[mid]! = true) (h4 : ∀ t, mid < t → t < b → ltInt d2[t]! d2[mid]! = false) (hp : PermIn (mid + 1) b d2 d3) (hs3 : SortedIn ltInt (mid + 1) b d3) : KInv d a0 b0 a mid d3 := by
  have hhi := h.hi
  have hlo := h.lo
  have hs := h.size
  have hs2 : d3.size = d2.size := hp.1
  have hp' : PermIn a b d2 d3 := Sort.permIn_mono _ _ _ _ _ _ (by omega) (Nat.le_refl _) (by omega) hp
  have em : d3[mid]! = d2[mid]! := hp.2.1 mid (.inl (by omega))
  have h3' : ∀ t, a ≤ t → t < mid → ltInt d3[t]! d2[mid]! = true := fun t t1 t2 => by rw [hp.2.1 t (.inl (by omega))]; exact h3 t t1 t2
  have h4' : ∀ t, mid + 1 ≤ t → t < b → ltInt d3[t]! d2[mid]! = false := Sort.permIn_all d2 d3 (mid + 1) b (fun x => ltInt x d2[mid]! = false) (by omega) hp fun t t1 t2 => h4 t (by omega) t2
  refine ⟨hlo, h1, by omega, by omega, (Sort.Below.perm h.below (by omega) hp').mono (by omega), fun d' q1 q2 => h.done d' ?_ ?_⟩
  · exact Sort.permIn_trans _ _ _ _ _ hp' (Sort.permIn_mono _ _ _ _ _ _ (Nat.le_refl _) (by omega) (by omega) q1)
  · have em' : d'[mid]! = d2[mid]! := (q1.2.1 mid (.inr (Nat.le_refl _))).trans em
    refine Sort.sorted_glue swo_ltInt (mid := mid) q2 (Sort.SortedIn.congr hs3 fun i i1 i2 => q1.2.1 i (.inr (by omega))) (fun i i1 i2 => ?_) (fun i i1 i2 => ?_)
    · rw [em']; exact Sort.permIn_all d3 d' a mid (fun x => ltInt x d2[mid]! = true) (by omega) q1 h3' i i1 i2
    · rw [em', q1.2.1 i (.inr (by omega))]; exact h4' i i1 i2
end Go.Proofs.Qxb6601455a
