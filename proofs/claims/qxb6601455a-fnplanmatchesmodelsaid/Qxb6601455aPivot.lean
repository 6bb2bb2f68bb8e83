import Derived.Test.Qxb6601455aPartial
namespace Go.Proofs.Qxb6601455a
open Go.ChangeShapes Go.WideShapes Go.ChangeAt Go.RowKit
open Go.Sort (swp ltInt PermIn SortedIn)
set_option linter.unusedVariables false

/-- The counter of exchanges: a variable of its own. -/
def SwapAt (w : World) (s : Nat) : Prop := ∃ (cur : Array Value) (z : Int), w.heap[s]? = some (.cells cur 3 (0, 0)) ∧ cur[0]? = some (.int .i64 z)
theorem SwapAt.cell {w : World} {s : Nat} (h : SwapAt w s) : ∃ z, w.cell? ⟨s, 0, none⟩ = some (.int .i64 z) := by
  obtain ⟨cur, z, e, hc⟩ := h
  exact ⟨z, by rw [cell_of_row w s _ cur 3 (0, 0) e]; exact hc⟩
theorem SwapAt.frozen {w : World} {s : Nat} (h : SwapAt w s) (t : Nat) : w.frozen? ⟨s, t, none⟩ = false := by
  obtain ⟨cur, z, e, hc⟩ := h
  exact frozen_of_row w s t cur 3 e
theorem SwapAt.put {w : World} {s : Nat} (h : SwapAt w s) (z' : Int) : SwapAt (w.setCell ⟨s, 0, none⟩ (.int .i64 z')) s := by
  obtain ⟨cur, z, e, hc⟩ := h
  refine ⟨_, z', heap_setCell_same w s _ cur 3 _ e, ?_⟩
  rw [Array.getElem?_setIfInBounds, if_pos rfl, if_pos (Array.getElem?_eq_some_iff.1 hc).1]
theorem SwapAt.drewN {w : World} {s : Nat} (h : SwapAt w s) (q : Nat) : SwapAt (w.drewN q) s := h
theorem RowA.keep {w w' : World} {g s : Nat} {d : Array Int} (h : RowA w g d) (hk : w.grownBy w' (some s)) (hne : s ≠ g) : RowA w' g d :=
  h.of_block (hk.block g h.lt (by simpa using fun e => hne e.symm))

set_option maxRecDepth 100000 in
theorem order2_any (g s cap a b lo hi : Nat) (d : Array Int) (w : World) (hr : RowA w g d) (hs : SwapAt w s) (hne : s ≠ g) (hhi : hi ≤ d.size) (h1 : lo ≤ a) (h2 : a < hi) (h3 : lo ≤ b) (h4 : b < hi) :
    Calls Try.prog 36 #[.slice (some ⟨g, 0, none⟩) d.size cap, .int .i64 a, .int .i64 b, .pointer (some ⟨s, 0, none⟩)] w fun e w' => ∃ x y : Nat, e = .returned (.tuple #[.int .i64 x, .int .i64 y]) ∧ lo ≤ x ∧ x < hi ∧ lo ≤ y ∧ y < hi ∧ SwapAt w' s ∧ w.grownBy w' (some s) := by
  obtain ⟨G, HG, hc⟩ := hr.named
  have c1 := hc a (by omega)
  have c2 := hc b (by omega)
  obtain ⟨z, hz⟩ := hs.cell
  have hfz := hs.frozen
  go_enter Try.func36, Try.ntmps36
  go_upto_region 1 with fail
  go_quiet ((go_at_call 25; exact Calls.quiet_of_same (less_any _ _ _)))
  go_wp2_with fail
  · go_ret2
    exact ⟨b, a, rfl, h3, h4, h1, h2, (hs.drewN _).put _, keep_set (keep_drewN (keep_refl _ _) _) _ _⟩
  · go_ret2
    exact ⟨a, b, rfl, h1, h2, h3, h4, hs, keep_drewN (keep_refl _ _) _⟩

set_option maxRecDepth 100000 in
theorem median_any (g s cap a b c lo hi : Nat) (d : Array Int) (w : World) (hr : RowA w g d) (hs : SwapAt w s) (hne : s ≠ g) (hhi : hi ≤ d.size) (h1 : lo ≤ a) (h2 : a < hi) (h3 : lo ≤ b) (h4 : b < hi) (h5 : lo ≤ c) (h6 : c < hi) :
    Calls Try.prog 34 #[.slice (some ⟨g, 0, none⟩) d.size cap, .int .i64 a, .int .i64 b, .int .i64 c, .pointer (some ⟨s, 0, none⟩)] w fun e w' => ∃ x : Nat, e = .returned (.int .i64 x) ∧ lo ≤ x ∧ x < hi ∧ SwapAt w' s ∧ w.grownBy w' (some s) := by
  go_enter Try.func34, Try.ntmps34
  go_wp2_with fail
  go_at_call 36
  refine (order2_any g s cap a b lo hi d _ hr hs hne hhi h1 h2 h3 h4).mono ?_
  rintro e w1 ⟨x1, y1, rfl, p1, p2, p3, p4, hs1, k1⟩
  have hr1 := hr.keep k1 hne
  go_wp2_with fail
  go_at_call 36
  refine (order2_any g s cap y1 c lo hi d _ hr1 hs1 hne hhi p3 p4 h5 h6).mono ?_
  rintro e w2 ⟨x2, y2, rfl, q1, q2, q3, q4, hs2, k2⟩
  have hr2 := hr1.keep k2 hne
  go_wp2_with fail
  go_at_call 36
  refine (order2_any g s cap x1 x2 lo hi d _ hr2 hs2 hne hhi p1 p2 q1 q2).mono ?_
  rintro e w3 ⟨x3, y3, rfl, r1, r2, r3, r4, hs3, k3⟩
  go_wp2_with fail
  go_ret
  exact ⟨y3, rfl, r3, r4, hs3, keep_trans (keep_trans k1 k2) k3⟩

set_option maxRecDepth 100000 in
theorem medAdj_any (g s cap a lo hi : Nat) (d : Array Int) (w : World) (hr : RowA w g d) (hs : SwapAt w s) (hne : s ≠ g) (hhi : hi ≤ d.size) (hsz : d.size ≤ 1000000) (h1 : lo + 1 ≤ a) (h2 : a + 1 < hi) :
    Calls Try.prog 33 #[.slice (some ⟨g, 0, none⟩) d.size cap, .int .i64 a, .pointer (some ⟨s, 0, none⟩)] w fun e w' => ∃ x : Nat, e = .returned (.int .i64 x) ∧ lo ≤ x ∧ x < hi ∧ SwapAt w' s ∧ w.grownBy w' (some s) := by
  obtain ⟨a0, ha0⟩ : ∃ a0 : Nat, (a : Int) - 1 = a0 := ⟨a - 1, by omega⟩
  obtain ⟨a2, ha2⟩ : ∃ a2 : Nat, (a : Int) + 1 = a2 := ⟨a + 1, by omega⟩
  go_enter Try.func33, Try.ntmps33
  go_wp2_with fail
  go_at_call 34

  refine (median_any g s cap a0 a a2 lo hi d _ hr hs hne hhi (by omega) (by omega) (by omega) (by omega) (by omega) (by omega)).mono ?_
  rintro e w1 ⟨x1, rfl, p1, p2, hs1, k1⟩
  go_wp2_with fail
  go_ret
  exact ⟨x1, rfl, p1, p2, hs1, k1⟩

/-- A call that wrote the new block alone. -/
theorem below_keep {w w1 w2 : World} (h : Below w.heap.size w w1) (k : w1.grownBy w2 (some w.heap.size)) : Below w.heap.size w w2 :=
  h.trans ⟨k.os, k.tape, k.output, k.size, fun x hx => k.block x (Nat.lt_of_lt_of_le hx h.size) (by simp; omega)⟩

set_option maxRecDepth 100000 in
theorem pivot_any (g cap a b : Nat) (d : Array Int) (w : World) (hr : RowA w g d) (hab : a + 8 ≤ b) (hb : b ≤ d.size) (hsz : d.size ≤ 1000000) :
    Calls Try.prog 22 #[.slice (some ⟨g, 0, none⟩) d.size cap, .int .i64 a, .int .i64 b] w fun e w' => ∃ (x h : Nat), e = .returned (.tuple #[.int .i64 x, .int .i64 h]) ∧ h ≤ 2 ∧ a ≤ x ∧ x < b ∧ Below w.heap.size w w' := by
  obtain ⟨l, hl⟩ : ∃ l : Nat, (b : Int) - a = l := ⟨b - a, by omega⟩
  obtain ⟨q, hq⟩ : ∃ q : Nat, (l : Int) / 4 = q := ⟨l / 4, by omega⟩
  obtain ⟨i, hi⟩ : ∃ i : Nat, (a : Int) + q = i := ⟨a + q, by omega⟩
  obtain ⟨j, hj⟩ : ∃ j : Nat, (a : Int) + q * 2 = j := ⟨a + q * 2, by omega⟩
  obtain ⟨k, hk⟩ : ∃ k : Nat, (a : Int) + q * 3 = k := ⟨a + q * 3, by omega⟩
  have hne : w.heap.size ≠ g := by have := hr.lt; omega
  have hr0 : RowA (w.alloc (Obj.cells #[Value.int IntKind.i64 0] 3)) g d := hr.alloc _
  have hs0 : SwapAt (w.alloc (Obj.cells #[Value.int IntKind.i64 0] 3)) w.heap.size := ⟨_, 0, heap_alloc_new _ _, rfl⟩
  have hb0 : Below w.heap.size w (w.alloc (Obj.cells #[Value.int IntKind.i64 0] 3)) := Below.alloc (Below.refl _ _) (Nat.le_refl _) _
  go_enter Try.func22, Try.ntmps22
  go_upto_if 34 with fail
  go_cut [10, 11, 12] (fun vi vj vk wx => ∃ i' j' k' : Nat, vi = .int .i64 i' ∧ vj = .int .i64 j' ∧ vk = .int .i64 k' ∧ a ≤ i' ∧ i' < b ∧ a ≤ j' ∧ j' < b ∧ a ≤ k' ∧ k' < b ∧ RowA wx g d ∧ SwapAt wx w.heap.size ∧ Below w.heap.size w wx)
  case first =>
    by_cases h50 : 50 ≤ l
    · go_wp2_with fail
      go_at_call 33
      refine (medAdj_any g w.heap.size cap i a b d _ hr0 hs0 hne hb hsz (by omega) (by omega)).mono ?_
      rintro e w1 ⟨x1, rfl, p1, p2, hs1, k1⟩
      have hr1 := hr0.keep k1 hne
      have hb1 := below_keep hb0 k1
      go_wp2_with fail
      go_at_call 33
      refine (medAdj_any g w.heap.size cap j a b d _ hr1 hs1 hne hb hsz (by omega) (by omega)).mono ?_
      rintro e w2 ⟨x2, rfl, p3, p4, hs2, k2⟩
      have hr2 := hr1.keep k2 hne
      have hb2 := below_keep hb1 k2
      go_wp2_with fail
      go_at_call 33
      refine (medAdj_any g w.heap.size cap k a b d _ hr2 hs2 hne hb hsz (by omega) (by omega)).mono ?_
      rintro e w3 ⟨x3, rfl, p5, p6, hs3, k3⟩
      have hr3 := hr2.keep k3 hne
      have hb3 := below_keep hb2 k3
      go_wp2_with fail
      go_meet
      case rel => exact ⟨x1, x2, x3, rfl, rfl, rfl, p1, p2, p3, p4, p5, p6, hr3, hs3, hb3⟩
    · go_wp2_with fail
      go_meet
      case rel => exact ⟨i, j, k, rfl, rfl, rfl, by omega, by omega, by omega, by omega, by omega, by omega, hr0, hs0, hb0⟩
  case rest =>
    obtain ⟨x1, x2, x3, rfl, rfl, rfl, p1, p2, p3, p4, p5, p6, hr3, hs3, hb3⟩ := hcut
    go_wp2_with fail
    go_at_call 34
    refine (median_any g w.heap.size cap x1 x2 x3 a b d _ hr3 hs3 hne hb p1 p2 p3 p4 p5 p6).mono ?_
    rintro e w4 ⟨x4, rfl, p7, p8, hs4, k4⟩
    have hb4 := below_keep hb3 k4
    obtain ⟨z, hz⟩ := hs4.cell
    by_cases h0 : z = 0
    · subst h0
      go_wp2_with fail
      go_ret2
      exact ⟨x4, 1, rfl, by omega, p7, p8, hb4⟩
    · by_cases h12 : z = 12
      · subst h12
        go_wp2_with fail
        go_ret2
        exact ⟨x4, 2, rfl, by omega, p7, p8, hb4⟩
      · have e0 : (z == 0) = false := by simp [h0]
        have e12 : (z == 12) = false := by simp [h12]
        go_wp2_with fail
        go_ret2
        exact ⟨x4, 0, rfl, by omega, p7, p8, hb4⟩
end Go.Proofs.Qxb6601455a
