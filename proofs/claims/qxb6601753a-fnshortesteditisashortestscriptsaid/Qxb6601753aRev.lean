import Derived.Test.Qxb6601753aMem
import Derived.BigRegion
import Derived.RegionTactic
import Derived.Deep.QuietTactic
import Derived.BigQuiet
namespace Go.Proofs.Qxb6601753a
open Go.ChangeShapes Go.WideShapes Go.ChangeAt Go.RowKit
set_option linter.unusedVariables false

/-- An edit's three cells. -/
def ed (e : Int × Int × Int) : List Value := [.int .i64 e.1, .int .i64 e.2.1, .int .i64 e.2.2]

/-- A row of edits in block g, by its elements. -/
def RowE (w : World) (g cap : Nat) (tag : TypeId) (n : Nat) (f : Nat → Int × Int × Int) : Prop :=
  ∃ cur : Array Value, w.heap[g]? = some (.cells cur tag (0, 0)) ∧ cur.size = cap * 3 ∧ n ≤ cap ∧ cap ≤ maxLen ∧
    ∀ t, t < n → cur[t * 3]? = some (.int .i64 (f t).1) ∧ cur[t * 3 + 1]? = some (.int .i64 (f t).2.1) ∧ cur[t * 3 + 2]? = some (.int .i64 (f t).2.2)

theorem RowE.cells {w : World} {g cap : Nat} {tag : TypeId} {n : Nat} {f : Nat → Int × Int × Int} (h : RowE w g cap tag n f) (t : Nat) (ht : t < n) :
    w.cell? ⟨g, t * 3, none⟩ = some (.int .i64 (f t).1) ∧ w.cell? ⟨g, t * 3 + 1, none⟩ = some (.int .i64 (f t).2.1) ∧ w.cell? ⟨g, t * 3 + 2, none⟩ = some (.int .i64 (f t).2.2) := by
  obtain ⟨cur, h1, h2, h3, h4, h5⟩ := h
  rw [cell_of_row w g _ cur tag (0, 0) h1, cell_of_row w g _ cur tag (0, 0) h1, cell_of_row w g _ cur tag (0, 0) h1]
  exact h5 t ht
theorem RowE.frozen {w : World} {g cap : Nat} {tag : TypeId} {n : Nat} {f : Nat → Int × Int × Int} (h : RowE w g cap tag n f) (t : Nat) : w.frozen? ⟨g, t, none⟩ = false := by
  obtain ⟨cur, h1, _⟩ := h
  exact frozen_of_row w g t cur tag h1

theorem RowE.put {w : World} {g cap : Nat} {tag : TypeId} {n : Nat} {f : Nat → Int × Int × Int} (h : RowE w g cap tag n f) (i : Nat) (x : Int × Int × Int) :
    RowE (((w.setCell ⟨g, i * 3, none⟩ (.int .i64 x.1)).setCell ⟨g, i * 3 + 1, none⟩ (.int .i64 x.2.1)).setCell ⟨g, i * 3 + 2, none⟩ (.int .i64 x.2.2)) g cap tag n (fun t => if t = i then x else f t) := by
  obtain ⟨cur, h1, h2, h3, h4, h5⟩ := h
  have e1 := heap_setCell_same w g (i * 3) cur tag (.int .i64 x.1) h1
  have e2 := heap_setCell_same _ g (i * 3 + 1) _ tag (.int .i64 x.2.1) e1
  have e3 := heap_setCell_same _ g (i * 3 + 2) _ tag (.int .i64 x.2.2) e2
  refine ⟨_, e3, by simpa using h2, h3, h4, ?_⟩
  intro t ht
  obtain ⟨a, b, c⟩ := h5 t ht
  simp only [Array.getElem?_setIfInBounds, Array.size_setIfInBounds]
  by_cases hti : t = i
  · subst hti
    have l : t * 3 + 2 < cur.size := by omega
    refine ⟨?_, ?_, ?_⟩
    · rw [if_neg (by omega), if_neg (by omega), if_pos rfl, if_pos (by omega), if_pos rfl]
    · rw [if_neg (by omega), if_pos rfl, if_pos (by omega), if_pos rfl]
    · rw [if_pos rfl, if_pos l, if_pos rfl]
  · refine ⟨?_, ?_, ?_⟩
    · rw [if_neg (by omega), if_neg (by omega), if_neg (by omega), if_neg hti]; exact a
    · rw [if_neg (by omega), if_neg (by omega), if_neg (by omega), if_neg hti]; exact b
    · rw [if_neg (by omega), if_neg (by omega), if_neg (by omega), if_neg hti]; exact c
theorem RowE.drew {w : World} {g cap : Nat} {tag : TypeId} {n : Nat} {f : Nat → Int × Int × Int} (h : RowE w g cap tag n f) : RowE w.drew g cap tag n f := h
theorem RowE.congr {w : World} {g cap : Nat} {tag : TypeId} {n : Nat} {f f' : Nat → Int × Int × Int} (h : RowE w g cap tag n f) (he : ∀ t, t < n → f t = f' t) : RowE w g cap tag n f' := by
  obtain ⟨cur, h1, h2, h3, h4, h5⟩ := h
  exact ⟨cur, h1, h2, h3, h4, fun t ht => by rw [← he t ht]; exact h5 t ht⟩

theorem grown_setCell {w wr : World} {g : Nat} (h : w.grownBy wr (some g)) (o : Nat) (v : Value) : w.grownBy (wr.setCell ⟨g, o, none⟩ v) (some g) :=
  ⟨h.os, h.tape, h.output, by simpa using h.size, fun k hk hne => by
    rw [Below.heap_setCell wr ⟨g, o, none⟩ v k (fun e => hne (by rw [e]))]; exact h.block k hk hne⟩
theorem grown_drew {w wr : World} {r : Option Nat} (h : w.grownBy wr r) : w.grownBy wr.drew r := ⟨h.os, h.tape, h.output, h.size, h.block⟩

set_option maxHeartbeats 2000000 in
theorem reverse_any (g cap n : Nat) (f : Nat → Int × Int × Int) (w : World) (hn : n ≤ 1000000) (h : RowE w g cap 39 n f) :
    Calls Try.prog 18 #[.slice (some ⟨g, 0, none⟩) n cap] w fun e w' => e = .returned (.tuple #[]) ∧ RowE w' g cap 39 n (fun t => f (n - 1 - t)) ∧ w.grownBy w' (some g) ∧ w'.heap.size = w.heap.size := by
  go_enter Try.func18, Try.ntmps18
  go_wp2
  go_loopw [2, 3] (fun a b wr => ∃ (i : Nat) (f' : Nat → Int × Int × Int), a = .int .i64 i ∧ b = .int .i64 ((n : Int) - 1 - i) ∧ 2 * i ≤ n + 1 ∧ RowE wr g cap 39 n f' ∧ w.grownBy wr (some g) ∧ wr.heap.size = w.heap.size ∧
      (∀ t, t < n → f' t = if t < i ∨ n - i ≤ t then f (n - 1 - t) else f t)) (fun a _ _ => n - (intOf a).toNat)
  case atStart => exact ⟨0, f, rfl, by simp, by omega, h, World.grownBy.refl _ _, rfl, fun t ht => by rw [if_neg (by omega)]⟩
  case round =>
    obtain ⟨i, f', rfl, rfl, hi, hr, hg, hsz, hf⟩ := hrel
    by_cases hlt : 2 * i + 1 < n
    · obtain ⟨j, hj⟩ : ∃ j : Nat, (n : Int) - 1 - i = j := ⟨n - 1 - i, by omega⟩
      rw [hj]
      have hji : i < j := by omega
      have hjn : j < n := by omega
      have hin : i < n := by omega
      have c1 := hr.cells i (by omega)
      have c2 := hr.cells j (by omega)
      have hfz := hr.frozen
      obtain ⟨a0, a1, a2⟩ := c1
      obtain ⟨b0, b1, b2⟩ := c2
      have HF : Hid _ := hf
      clear hf
      go_wp2
      go_region
      all_goals go_wp2
      go_roundw
      case rel =>
        have p1 := ((hr.put i (f' j)).put j (f' i)).drew
        refine ⟨i + 1, _, by go_num, by congr 1; omega, by omega, p1, ?_, by simpa using hsz, ?_⟩
        · exact grown_drew (grown_setCell (grown_setCell (grown_setCell (grown_setCell (grown_setCell (grown_setCell hg _ _) _ _) _ _) _ _) _ _) _ _)
        · intro t ht
          have hi' := HF.out i hin
          have hj' := HF.out j hjn
          have ht' := HF.out t ht
          rw [if_neg (by omega)] at hi' hj'
          by_cases e1 : t = j
          · subst e1
            simp only [if_true]
            rw [hi', if_pos (by omega)]; congr 1; omega
          · by_cases e2 : t = i
            · subst e2
              rw [if_neg e1, if_pos rfl, hj', if_pos (by omega)]; congr 1; omega
            · rw [if_neg e1, if_neg e2, ht']
              by_cases e3 : t < i ∨ n - i ≤ t
              · rw [if_pos e3, if_pos (by omega)]
              · rw [if_neg e3, if_neg (by omega)]
      case measure => simp [intOf]; omega
    · go_wp2
      go_end0
      refine ⟨rfl, hr.congr ?_, hg, hsz⟩
      intro t ht
      rw [hf t ht]
      by_cases e : t < i ∨ n - i ≤ t
      · rw [if_pos e]
      · rw [if_neg e]; congr 1; omega
end Go.Proofs.Qxb6601753a
