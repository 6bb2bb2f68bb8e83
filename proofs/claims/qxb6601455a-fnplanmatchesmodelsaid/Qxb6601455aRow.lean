import Derived.Test.Qxb6601455aRows
import Derived.WalkKit
import Derived.ProofKit
import Derived.OpenShut
import Derived.Below
import Derived.CellFam
import Derived.BigRegion
import Derived.RegionTactic
import Derived.Deep.QuietTactic
import Derived.BigQuiet
import Derived.Deep.DeepCutAuto
import Derived.Deep.CutRange
import Derived.Sort.AssemblyPlain
import Derived.Sort.Row
namespace Go.Proofs.Qxb6601455a
open Go.ChangeShapes Go.WideShapes Go.ChangeAt Go.RowKit
open Go.Sort (swp ltInt PermIn SortedIn)
set_option linter.unusedVariables false

/-- The block g begins with the numbers of d. -/
def RowA (w : World) (g : Nat) (d : Array Int) : Prop :=
  ∃ cur : Array Value, w.heap[g]? = some (.cells cur 21 (0, 0)) ∧ ∀ t, t < d.size → cur[t]? = some (.int .i32 d[t]!)

theorem RowA.cell {w : World} {g : Nat} {d : Array Int} (h : RowA w g d) (t : Nat) (ht : t < d.size) : w.cell? ⟨g, t, none⟩ = some (.int .i32 d[t]!) := by
  obtain ⟨cur, e, hc⟩ := h
  rw [cell_of_row w g _ cur 21 (0, 0) e]; exact hc t ht
theorem RowA.frozen {w : World} {g : Nat} {d : Array Int} (h : RowA w g d) (t : Nat) : w.frozen? ⟨g, t, none⟩ = false := by
  obtain ⟨cur, e, hc⟩ := h
  exact frozen_of_row w g t cur 21 e
theorem RowA.lt {w : World} {g : Nat} {d : Array Int} (h : RowA w g d) : g < w.heap.size := by
  obtain ⟨cur, e, hc⟩ := h
  exact (Array.getElem?_eq_some_iff.1 e).1
theorem RowA.of_block {w w' : World} {g : Nat} {d : Array Int} (h : RowA w g d) (e : w'.heap[g]? = w.heap[g]?) : RowA w' g d := by
  obtain ⟨cur, e1, hc⟩ := h
  exact ⟨cur, e.trans e1, hc⟩
theorem RowA.below {w w' : World} {B g : Nat} {d : Array Int} (h : RowA w g d) (hb : Below B w w') (hg : g < B) : RowA w' g d := h.of_block (hb.block g hg)
theorem RowA.drewN {w : World} {g : Nat} {d : Array Int} (h : RowA w g d) (q : Nat) : RowA (w.drewN q) g d := h
theorem RowA.drew {w : World} {g : Nat} {d : Array Int} (h : RowA w g d) : RowA w.drew g d := h
theorem RowA.alloc {w : World} {g : Nat} {d : Array Int} (h : RowA w g d) (o : Obj) : RowA (w.alloc o) g d := h.of_block (Below.heap_alloc w o g h.lt)
theorem RowA.put {w : World} {g : Nat} {d : Array Int} (h : RowA w g d) (k : Nat) (z : Int) : RowA (w.setCell ⟨g, k, none⟩ (.int .i32 z)) g (d.setIfInBounds k z) := by
  obtain ⟨cur, e, hc⟩ := h
  refine ⟨_, heap_setCell_same w g _ cur 21 _ e, fun t ht => ?_⟩
  rw [Array.size_setIfInBounds] at ht
  have h2 := hc t ht
  rw [Array.getElem?_setIfInBounds]
  by_cases ek : t = k
  · subst ek
    rw [if_pos rfl, if_pos (Array.getElem?_eq_some_iff.1 h2).1, Go.Sort.getElem!_set_same _ _ _ ht]
  · rw [if_neg (fun e => ek e.symm), Go.Sort.getElem!_set_other _ _ _ _ ek]; exact h2
/-- An exchange of two elements. -/
theorem RowA.swap {w : World} {g : Nat} {d : Array Int} (h : RowA w g d) (i j : Nat) : RowA ((w.setCell ⟨g, i, none⟩ (.int .i32 d[j]!)).setCell ⟨g, j, none⟩ (.int .i32 d[i]!)) g (swp d i j) := (h.put i _).put j _

/-- A call that writes block g alone, and makes memory. -/
theorem keep_refl (w : World) (g : Nat) : w.grownBy w (some g) := World.grownBy.refl _ _
theorem keep_set {w wr : World} {g : Nat} (h : w.grownBy wr (some g)) (o : Nat) (v : Value) : w.grownBy (wr.setCell ⟨g, o, none⟩ v) (some g) :=
  ⟨h.os, h.tape, h.output, by simpa using h.size, fun k hk hne => by
    rw [Below.heap_setCell wr ⟨g, o, none⟩ v k (fun e => hne (by rw [e]))]; exact h.block k hk hne⟩
theorem keep_drewN {w wr : World} {r : Option Nat} (h : w.grownBy wr r) (q : Nat) : w.grownBy (wr.drewN q) r := ⟨h.os, h.tape, h.output, h.size, h.block⟩
theorem keep_drew {w wr : World} {r : Option Nat} (h : w.grownBy wr r) : w.grownBy wr.drew r := ⟨h.os, h.tape, h.output, h.size, h.block⟩
theorem keep_trans {w1 w2 w3 : World} {g : Nat} (h : w1.grownBy w2 (some g)) (h2 : w2.grownBy w3 (some g)) : w1.grownBy w3 (some g) :=
  ⟨h2.os.trans h.os, h2.tape.trans h.tape, h2.output.trans h.output, Nat.le_trans h.size h2.size, fun k hk hne => (h2.block k (Nat.lt_of_lt_of_le hk h.size) hne).trans (h.block k hk hne)⟩
theorem keep_below {w wr w2 : World} {r : Option Nat} (h : w.grownBy wr r) (hb : Below wr.heap.size wr w2) : w.grownBy w2 r :=
  ⟨hb.os.trans h.os, hb.tape.trans h.tape, hb.output.trans h.output, Nat.le_trans h.size hb.size, fun k hk hne => (hb.block k (Nat.lt_of_lt_of_le hk h.size)).trans (h.block k hk hne)⟩

theorem nan_any (x : Int) (w : World) : Calls Try.prog 35 #[.int .i32 x] w fun e w' => e = .returned (.bool false) ∧ w' = w := by
  go_enter Try.func35, Try.ntmps35
  go_wp2
  go_ret
  exact ⟨by simp, rfl⟩

theorem less_any (x y : Int) (w : World) : Calls Try.prog 25 #[.int .i32 x, .int .i32 y] w fun e w' => e = .returned (.bool (ltInt x y)) ∧ w' = w := by
  unfold ltInt
  go_enter Try.func25, Try.ntmps25
  go_wp2_with (go_at_call 35; refine (nan_any _ _).mono ?_; rintro e w ⟨rfl, rfl⟩)
  go_ret
  exact ⟨rfl, rfl⟩
end Go.Proofs.Qxb6601455a
