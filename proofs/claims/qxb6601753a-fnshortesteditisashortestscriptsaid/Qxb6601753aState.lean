import Derived.Test.Qxb6601753aBack
namespace Go.Proofs.Qxb6601753a
open Go.ChangeShapes Go.WideShapes Go.ChangeAt Go.RowKit
open Plain
set_option linter.unusedVariables false

/-- A row of numbers in block g, by a function on the integers from -mid to mid. -/
def RowZ (w : World) (g mid : Nat) (F : Int → Int) : Prop :=
  ∃ cur : Array Value, w.heap[g]? = some (.cells cur 3 (0, 0)) ∧ ∀ k : Int, -(mid : Int) ≤ k → k ≤ mid → cur[((mid : Int) + k).toNat]? = some (.int .i64 (F k))

theorem RowZ.cell {w : World} {g mid : Nat} {F : Int → Int} (h : RowZ w g mid F) (k : Int) (h1 : -(mid : Int) ≤ k) (h2 : k ≤ mid) : w.cell? ⟨g, ((mid : Int) + k).toNat, none⟩ = some (.int .i64 (F k)) := by
  obtain ⟨cur, e, hc⟩ := h
  rw [cell_of_row w g _ cur 3 (0, 0) e]; exact hc k h1 h2
theorem RowZ.frozen {w : World} {g mid : Nat} {F : Int → Int} (h : RowZ w g mid F) (t : Nat) : w.frozen? ⟨g, t, none⟩ = false := by
  obtain ⟨cur, e, hc⟩ := h
  exact frozen_of_row w g t cur 3 e
theorem RowZ.lt {w : World} {g mid : Nat} {F : Int → Int} (h : RowZ w g mid F) : g < w.heap.size := by
  obtain ⟨cur, e, hc⟩ := h
  exact (Array.getElem?_eq_some_iff.1 e).1
theorem RowZ.of_block {w w' : World} {g mid : Nat} {F : Int → Int} (h : RowZ w g mid F) (e : w'.heap[g]? = w.heap[g]?) : RowZ w' g mid F := by
  obtain ⟨cur, e1, hc⟩ := h
  exact ⟨cur, e.trans e1, hc⟩
theorem RowZ.put {w : World} {g mid : Nat} {F : Int → Int} (h : RowZ w g mid F) (k z : Int) (h1 : -(mid : Int) ≤ k) (h2 : k ≤ mid) :
    RowZ (w.setCell ⟨g, ((mid : Int) + k).toNat, none⟩ (.int .i64 z)) g mid (fun t => if t = k then z else F t) := by
  obtain ⟨cur, e, hc⟩ := h
  refine ⟨_, heap_setCell_same w g _ cur 3 _ e, fun t a b => ?_⟩
  have hk := hc k h1 h2
  have ht := hc t a b
  rw [Array.getElem?_setIfInBounds]
  by_cases ek : t = k
  · subst ek
    rw [if_pos rfl, if_pos (Array.getElem?_eq_some_iff.1 hk).1]; simp
  · rw [if_neg (by omega)]; simpa [ek] using ht

/-- What the search holds in memory: the budget's cell, the furthest points, the trace of d rounds and its rows. -/
structure St (w wr : World) (bb fb mid : Nat) (v : Value) (d : Nat) (b : Int) (F : Int → Int) (gs cs : Nat → Nat) (S : Nat → Int → Int) : Prop where
  grown : w.grownBy wr (some bb)
  bud : wr.heap[bb]? = some (.cells #[.int .i64 b] 3 (0, 0))
  fur : RowZ wr fb mid F
  tr : wr.ownsRow (fb + 1) 22 1 v d ((List.range d).map fun t => .slice (some ⟨gs t, 0, none⟩) (2 * t + 1) (cs t))
  cl : ∀ t, t < d → fb < gs t ∧ RowZ wr (gs t) t (S t)

section
variable {w wr : World} {bb fb mid : Nat} {v : Value} {d : Nat} {b : Int} {F : Int → Int} {gs cs : Nat → Nat} {S : Nat → Int → Int}

theorem St.budCell (h : St w wr bb fb mid v d b F gs cs S) : wr.cell? ⟨bb, 0, none⟩ = some (.int .i64 b) := by
  rw [cell_of_row wr bb 0 _ 3 (0, 0) h.bud]; rfl
theorem St.budFree (h : St w wr bb fb mid v d b F gs cs S) : wr.frozen? ⟨bb, 0, none⟩ = false := frozen_of_row wr bb 0 _ 3 h.bud

theorem owns_of_block {w w' : World} {base : Nat} {e : TypeId} {size : Nat} {v : Value} {n : Nat} {xs : List Value} (h : w.ownsRow base e size v n xs) (he : ∀ k, v.ownBlock = some k → w'.heap[k]? = w.heap[k]?) : w'.ownsRow base e size v n xs := by
  refine ⟨h.1, ?_⟩
  rcases h.2 with h2 | ⟨g, cap, cur, h1, h2, h3, h4, h5, h6, h7⟩
  · exact .inl h2
  · exact .inr ⟨g, cap, cur, h1, h2, (he g (by rw [h1]; rfl)).trans h3, h4, h5, h6, h7⟩

/-- Writing the budget's cell. -/
theorem St.setBud (h : St w wr bb fb mid v d b F gs cs S) (hb : bb < fb) (b' : Int) : St w (wr.setCell ⟨bb, 0, none⟩ (.int .i64 b')) bb fb mid v d b' F gs cs S where
  grown := grown_setCell h.grown _ _
  bud := by have := heap_setCell_same wr bb 0 _ 3 (.int .i64 b') h.bud; simpa using this
  fur := h.fur.of_block (heap_setCell_other wr ⟨bb, 0, none⟩ fb _ (by simp; omega))
  tr := owns_of_block h.tr (fun k hk => heap_setCell_other wr ⟨bb, 0, none⟩ k _ (by have := (h.tr.lt k hk).1; simp; omega))
  cl := fun t ht => ⟨(h.cl t ht).1, (h.cl t ht).2.of_block (heap_setCell_other wr ⟨bb, 0, none⟩ (gs t) _ (by have := (h.cl t ht).1; simp; omega))⟩

/-- Writing one furthest point. -/
theorem St.setFur (h : St w wr bb fb mid v d b F gs cs S) (hb : bb < fb) (hw : w.heap.size ≤ fb) (k z : Int) (h1 : -(mid : Int) ≤ k) (h2 : k ≤ mid) :
    St w (wr.setCell ⟨fb, ((mid : Int) + k).toNat, none⟩ (.int .i64 z)) bb fb mid v d b (fun t => if t = k then z else F t) gs cs S where
  grown := ⟨h.grown.os, h.grown.tape, h.grown.output, by simpa using h.grown.size, fun k hk hne => by
    rw [heap_setCell_other wr _ k _ (by simp; omega)]; exact h.grown.block k hk hne⟩
  bud := by rw [heap_setCell_other wr _ bb _ (by simp; omega)]; exact h.bud
  fur := h.fur.put k z h1 h2
  tr := owns_of_block h.tr (fun k hk => heap_setCell_other wr _ k _ (by have := (h.tr.lt k hk).1; simp; omega))
  cl := fun t ht => ⟨(h.cl t ht).1, (h.cl t ht).2.of_block (heap_setCell_other wr _ (gs t) _ (by have := (h.cl t ht).1; simp; omega))⟩

/-- Draws turn nothing. -/
theorem St.drewN (h : St w wr bb fb mid v d b F gs cs S) (q : Nat) : St w (wr.drewN q) bb fb mid v d b F gs cs S :=
  ⟨⟨h.grown.os, h.grown.tape, h.grown.output, h.grown.size, h.grown.block⟩, h.bud, h.fur, h.tr, h.cl⟩

/-- A callee that only makes memory. -/
theorem St.below {w2 : World} (h : St w wr bb fb mid v d b F gs cs S) (hb : Below wr.heap.size wr w2) : St w w2 bb fb mid v d b F gs cs S where
  grown := ⟨hb.os.trans h.grown.os, hb.tape.trans h.grown.tape, hb.output.trans h.grown.output, Nat.le_trans h.grown.size hb.size, fun k hk hne => (hb.block k (Nat.lt_of_lt_of_le hk h.grown.size)).trans (h.grown.block k hk hne)⟩
  bud := (hb.block bb (Array.getElem?_eq_some_iff.1 h.bud).1).trans h.bud
  fur := h.fur.of_block (hb.block fb h.fur.lt)
  tr := ownsRow_below h.tr hb
  cl := fun t ht => ⟨(h.cl t ht).1, (h.cl t ht).2.of_block (hb.block _ (h.cl t ht).2.lt)⟩

/-- One row more on the trace: the append of what Clone gave. -/
theorem St.push {w2 : World} {v2 : Value} (h : St w wr bb fb mid v d b F gs cs S) (hfb : bb < fb) (hw : w.heap.size ≤ fb) (g c : Nat) (Z : Int → Int) (hg : fb < g) (hz : RowZ wr g d Z)
    (hown : w2.ownsRow (fb + 1) 22 1 v2 (d + 1) (((List.range d).map fun t => .slice (some ⟨gs t, 0, none⟩) (2 * t + 1) (cs t)) ++ [.slice (some ⟨g, 0, none⟩) (2 * d + 1) c])) (hgr : wr.grownBy w2 v.ownBlock) :
    St w w2 bb fb mid v2 (d + 1) b F (fun t => if t = d then g else gs t) (fun t => if t = d then c else cs t) (fun t => if t = d then Z else S t) := by
  have tag : ∀ k, v.ownBlock = some k → ∃ cur, wr.heap[k]? = some (.cells cur 22 (0, 0)) := by
    intro k hk
    rcases h.tr.2 with ⟨h2, _⟩ | ⟨g, cap, cur, h1, h2, h3, _⟩
    · rw [h2] at hk; simp [Value.ownBlock] at hk
    · rw [h1] at hk; simp [Value.ownBlock] at hk; subst hk; exact ⟨cur, h3⟩
  have same : ∀ (k : Nat) (cur : Array Value), wr.heap[k]? = some (.cells cur 3 (0, 0)) → w2.heap[k]? = wr.heap[k]? := by
    intro k cur hk
    refine hgr.block k (Array.getElem?_eq_some_iff.1 hk).1 ?_
    intro e
    obtain ⟨cur2, h2⟩ := tag k e.symm
    rw [hk] at h2; simp at h2
  have sameZ : ∀ k mid F, RowZ wr k mid F → RowZ w2 k mid F := fun k mid F hr => hr.of_block (by obtain ⟨cur, e, _⟩ := hr; exact same k cur e)
  refine ⟨⟨hgr.os.trans h.grown.os, hgr.tape.trans h.grown.tape, hgr.output.trans h.grown.output, Nat.le_trans h.grown.size hgr.size, fun k hk hne => ?_⟩, (same bb _ h.bud).trans h.bud, sameZ _ _ _ h.fur, ?_, ?_⟩
  · refine (hgr.block k (Nat.lt_of_lt_of_le hk h.grown.size) ?_).trans (h.grown.block k hk hne)
    intro e
    have := (h.tr.lt k e.symm).1; omega
  · have el : ((List.range d).map fun t => Value.slice (some ⟨gs t, 0, none⟩) (2 * t + 1) (cs t)) = (List.range d).map fun t => Value.slice (some ⟨if t = d then g else gs t, 0, none⟩) (2 * t + 1) (if t = d then c else cs t) := by
      apply List.map_congr_left
      intro t ht
      have : t < d := List.mem_range.1 ht
      rw [if_neg (by omega), if_neg (by omega)]
    rw [List.range_succ, List.map_append, ← el]
    simpa using hown
  · intro t ht
    by_cases e : t = d
    · subst e; simp only [if_true]; exact ⟨hg, sameZ _ _ _ hz⟩
    · simp only [if_neg e]; exact ⟨(h.cl t (by omega)).1, sameZ _ _ _ (h.cl t (by omega)).2⟩

/-- What the trace-back asks. -/
theorem St.trace {tb tcap : Nat} (h : St w wr bb fb mid (.slice (some ⟨tb, 0, none⟩) (d + 1) tcap) (d + 1) b F gs cs S) : Trace wr tb d gs cs S where
  row := fun t ht => by
    rw [h.tr.cellAt t (by omega), List.getElem?_map, List.getElem?_range (by omega)]; rfl
  at_ := fun t ht k h1 h2 => (h.cl t (by omega)).2.cell k h1 h2
end
end Go.Proofs.Qxb6601753a
