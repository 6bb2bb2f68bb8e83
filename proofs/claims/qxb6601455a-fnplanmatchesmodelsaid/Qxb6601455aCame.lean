import Derived.Test.Qxb6601455aMem
namespace Go.Proofs.Qxb6601455a
open Go.ChangeShapes Go.WideShapes Go.ChangeAt Go.RowKit
set_option linter.unusedVariables false

theorem fits_of_wf {z : Int} (h : (Lit.int .i32 z).wf = true) : -2147483648 ≤ z ∧ z ≤ 2147483647 := by
  simp [Lit.wf] at h
  have e1 : IntKind.i32.min = -2147483648 := by decide
  have e2 : IntKind.i32.max = 2147483647 := by decide
  omega

/-- The shell's fact on a slice that came in, as ours. -/
theorem came_of {w : World} {a : Option Addr} {len cap : Nat} {zs : List Int}
    (h : (a = none ∧ len = 0 ∧ cap = 0 ∧ zs = []) ∨
      ∃ x, a = some x ∧ len ≤ cap ∧ cap ≤ maxLen ∧ zs.length = cap ∧ (∀ i, i < zs.length → w.cell? (x.add i) = some (.int .i32 (zs.getD i 0))) ∧ ∀ n ∈ zs, (Lit.int .i32 n).wf = true) :
    Came w a len cap (zs.take len).toArray ∧ len ≤ maxLen := by
  rcases h with ⟨rfl, rfl, rfl, rfl⟩ | ⟨x, rfl, h1, h2, h3, h4, h5⟩
  · exact ⟨⟨rfl, fun t ht => by simp at ht, .inl ⟨rfl, rfl, rfl⟩⟩, Nat.zero_le _⟩
  · have hs : (zs.take len).toArray.size = len := by simp; omega
    have hg : ∀ t, t < len → (zs.take len).toArray[t]! = zs.getD t 0 := by
      intro t ht
      rw [getElem!_pos _ t (by omega), List.getD_eq_getElem?_getD, List.getElem?_eq_getElem (by omega)]
      simp
    refine ⟨⟨hs.symm, fun t ht => ?_, .inr ⟨x, rfl, fun t ht => ?_⟩⟩, by omega⟩
    · rw [hs] at ht
      rw [hg t ht]
      refine fits_of_wf (h5 _ ?_)
      rw [List.getD_eq_getElem?_getD, List.getElem?_eq_getElem (by omega)]; simp
    · rw [hs] at ht
      rw [hg t ht]; exact h4 t (by omega)
end Go.Proofs.Qxb6601455a
