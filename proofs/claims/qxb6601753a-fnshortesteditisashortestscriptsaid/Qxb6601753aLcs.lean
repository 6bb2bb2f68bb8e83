import Derived.Test.Qxb6601753aSelf
namespace Go.Proofs.Qxb6601753a
open Go.ChangeShapes Go.WideShapes Go.ChangeAt Go.RowKit
open Plain
set_option linter.unusedVariables false

/-- A row of numbers in block g. -/
def RowN (w : World) (g N : Nat) (f : Nat → Int) : Prop :=
  ∃ cur : Array Value, w.heap[g]? = some (.cells cur 3 (0, 0)) ∧ ∀ t, t < N → cur[t]? = some (.int .i64 (f t))
theorem RowN.cell {w : World} {g N : Nat} {f : Nat → Int} (h : RowN w g N f) (t : Nat) (ht : t < N) : w.cell? ⟨g, t, none⟩ = some (.int .i64 (f t)) := by
  obtain ⟨cur, e, hc⟩ := h
  rw [cell_of_row w g _ cur 3 (0, 0) e]; exact hc t ht
theorem RowN.frozen {w : World} {g N : Nat} {f : Nat → Int} (h : RowN w g N f) (t : Nat) : w.frozen? ⟨g, t, none⟩ = false := by
  obtain ⟨cur, e, hc⟩ := h
  exact frozen_of_row w g t cur 3 e
theorem RowN.lt {w : World} {g N : Nat} {f : Nat → Int} (h : RowN w g N f) : g < w.heap.size := by
  obtain ⟨cur, e, hc⟩ := h
  exact (Array.getElem?_eq_some_iff.1 e).1
theorem RowN.of_block {w w' : World} {g N : Nat} {f : Nat → Int} (h : RowN w g N f) (e : w'.heap[g]? = w.heap[g]?) : RowN w' g N f := by
  obtain ⟨cur, e1, hc⟩ := h
  exact ⟨cur, e.trans e1, hc⟩
theorem RowN.congr {w : World} {g N : Nat} {f f' : Nat → Int} (h : RowN w g N f) (he : ∀ t, t < N → f t = f' t) : RowN w g N f' := by
  obtain ⟨cur, e1, hc⟩ := h
  exact ⟨cur, e1, fun t ht => by rw [← he t ht]; exact hc t ht⟩
theorem RowN.put {w : World} {g N : Nat} {f : Nat → Int} (h : RowN w g N f) (k : Nat) (z : Int) (hk : k < N) :
    RowN (w.setCell ⟨g, k, none⟩ (.int .i64 z)) g N (fun t => if t = k then z else f t) := by
  obtain ⟨cur, e, hc⟩ := h
  refine ⟨_, heap_setCell_same w g _ cur 3 _ e, fun t ht => ?_⟩
  have h1 := hc k hk
  have h2 := hc t ht
  rw [Array.getElem?_setIfInBounds]
  by_cases ek : t = k
  · subst ek
    rw [if_pos rfl, if_pos (Array.getElem?_eq_some_iff.1 h1).1]; simp
  · rw [if_neg (fun e => ek e.symm)]; simpa [ek] using h2
theorem RowN.of_made {w : World} {base g N : Nat} (h : w.ownsRow base 3 1 (.slice (some ⟨g, 0, none⟩) N N) N (madeCells (Value.int .i64 0).cells (N * 1)).toList) : RowN w g N (fun _ => 0) := by
  have hb := made_block h
  refine ⟨_, hb, fun t ht => ?_⟩
  simp [ht]
theorem RowN.drewN {w : World} {g N : Nat} {f : Nat → Int} (h : RowN w g N f) (q : Nat) : RowN (w.drewN q) g N f := h
theorem RowN.other {w : World} {g N : Nat} {f : Nat → Int} (h : RowN w g N f) (g' k : Nat) (v : Value) (hne : g ≠ g') : RowN (w.setCell ⟨g', k, none⟩ v) g N f :=
  h.of_block (heap_setCell_other w ⟨g', k, none⟩ g v hne)
theorem below_drewN' {B : Nat} {w wr : World} (h : Below B w wr) (q : Nat) : Below B w (wr.drewN q) := ⟨h.os, h.tape, h.output, h.size, h.block⟩

set_option maxRecDepth 100000 in
set_option maxHeartbeats 4000000 in
theorem lcs_any (n m bx cx by_ cy : Nat) (ax ay : Option Addr) (X Y : Nat → Int) (w : World) (hn : n ≤ 65536) (hm : m ≤ 65536) (hax : 0 < n → ax = some ⟨bx, 0, none⟩) (hay : 0 < m → ay = some ⟨by_, 0, none⟩)
    (hx : ∀ t, t < n → w.cell? ⟨bx, t, none⟩ = some (.int .i64 (X t))) (hy : ∀ t, t < m → w.cell? ⟨by_, t, none⟩ = some (.int .i64 (Y t))) :
    Calls Try.prog 8 #[.slice ax n cx, .slice ay m cy] w fun e w' => e = .returned (.int .i64 (lc (EQ X Y n m) n m : Nat)) ∧ Below w.heap.size w w' := by
  obtain ⟨i0, hi, hz0, hz1, hz2⟩ := info_parts info3
  have HX : Hid _ := hx
  have HY : Hid _ := hy
  obtain ⟨E, hE⟩ : ∃ E, E = EQ X Y n m := ⟨_, rfl⟩
  have hEq : ∀ i j, i < n → j < m → E i j = (X i == Y j) := by rw [hE]; intro i j h1 h2; simp [EQ, h1, h2]; rfl
  rw [← hE]
  have HEQ : Hid _ := hEq
  clear hx hy hE hEq
  go_enter Try.func8, Try.ntmps8
  go_wp2_with (first
    | (at_make; refine wpList_make_full _ rfl (.tmp 13) (.tmp 13) 22 rfl w.heap.size 3 i0 _ 1 Try.underlying22 hi hz0 hz1 .i64 .i64 _ _ (m + 1) rfl rfl (by omega) (by omega) (by rw [hz2]; omega) (by unfold maxLen; omega) (Nat.le_refl _) ?_; intro w1 hown1 hgrow1; have hb1 : Below w.heap.size w w1 := (Below.refl _ _).grown hgrow1 (Nat.le_refl _) (fun k hk => by cases hk))
    | (at_make; refine wpList_make_full _ rfl (.tmp 16) (.tmp 16) 22 rfl w.heap.size 3 i0 _ 1 Try.underlying22 hi hz0 hz1 .i64 .i64 _ _ (m + 1) rfl rfl (by omega) (by omega) (by rw [hz2]; omega) (by unfold maxLen; omega) hb1.size ?_; intro w2 hown2 hgrow2; have hb2 : Below w.heap.size w w2 := hb1.grown hgrow2 hb1.size (fun k hk => by cases hk)))
  have hr1 : RowN w2 w.heap.size (m + 1) (fun _ => 0) := (RowN.of_made hown1).of_block (hgrow2.block _ (RowN.of_made hown1).lt (by simp))
  have hr2 : RowN w2 w1.heap.size (m + 1) (fun _ => 0) := RowN.of_made hown2
  have hne : w.heap.size ≠ w1.heap.size := by have := (RowN.of_made hown1).lt; omega
  have hw1 := hb1.size
  clear hown1 hown2 hgrow1 hgrow2
  go_loopw [6, 7, 8] (fun pv cv iv wr => ∃ (i gp gc : Nat) (f : Nat → Int), pv = .slice (some ⟨gp, 0, none⟩) (m + 1) (m + 1) ∧ cv = .slice (some ⟨gc, 0, none⟩) (m + 1) (m + 1) ∧ iv = .int .i64 (i + 1 : Nat) ∧ i ≤ n ∧ gp ≠ gc ∧ w.heap.size ≤ gp ∧ w.heap.size ≤ gc ∧
      RowN wr gp (m + 1) (fun j => (lc E i j : Nat)) ∧ RowN wr gc (m + 1) f ∧ f 0 = 0 ∧ Below w.heap.size w wr) (fun _ _ iv _ => n + 1 - (intOf iv).toNat)
  case atStart => exact ⟨0, w.heap.size, w1.heap.size, _, rfl, rfl, rfl, Nat.zero_le _, hne, Nat.le_refl _, hw1, hr1.congr (fun t _ => by simp [lc_zero]), hr2, rfl, hb2⟩
  case round =>
    obtain ⟨i, gp, gc, f, rfl, rfl, rfl, hin, hpc, hgp, hgc, hrp, hrc, hf0, hbel⟩ := hrel
    clear hr1 hr2 hb1 hb2
    by_cases hlt : i < n
    · go_wp2_with fail
      go_loopw [9] (fun jv wr => ∃ (j : Nat) (f : Nat → Int), jv = .int .i64 (j + 1 : Nat) ∧ j ≤ m ∧ RowN wr gp (m + 1) (fun j => (lc E i j : Nat)) ∧ RowN wr gc (m + 1) f ∧ (∀ t, t ≤ j → f t = (lc E (i + 1) t : Nat)) ∧ Below w.heap.size w wr) (fun jv _ => m + 1 - (intOf jv).toNat)
      case atStart => exact ⟨0, f, rfl, Nat.zero_le _, hrp, hrc, fun t ht => by rw [Nat.le_zero.1 ht, hf0, lc_left]; rfl, hbel⟩
      case round =>
        obtain ⟨j, f2, rfl, hjm, hrp2, hrc2, hf2, hbel2⟩ := hrel
        clear hrp hrc hbel
        by_cases hjl : j < m
        · obtain rfl := hax (by omega)
          obtain rfl := hay (by omega)
          have hcx : wr.cell? ⟨bx, i, none⟩ = some (.int .i64 (X i)) := (hbel2.cell (World.block_lt_of_cell? _ _ (HX.out i hlt))).trans (HX.out i hlt)
          have hcy : wr.cell? ⟨by_, j, none⟩ = some (.int .i64 (Y j)) := (hbel2.cell (World.block_lt_of_cell? _ _ (HY.out j hjl))).trans (HY.out j hjl)
          have p0 := hrp2.cell j (by omega)
          have p1 := hrp2.cell (j + 1) (by omega)
          have c0 := hrc2.cell j (by omega)
          have c1 := hrc2.cell (j + 1) (by omega)
          have hfz := hrc2.frozen
          rw [hf2 j (Nat.le_refl _)] at c0
          have l1 := lc_le_i E i j
          have l2 := lc_le_i E i (j + 1)
          have l3 := lc_le_i E (i + 1) j
          have STEP : Hid (∀ (q : Nat) (z : Int), ((lc E (i + 1) (j + 1) : Nat) : Int) = z → ∃ (j' : Nat) (f : Nat → Int), Value.int .i64 ((j : Int) + 1 + 1) = .int .i64 (j' + 1 : Nat) ∧ j' ≤ m ∧ RowN ((wr.drewN q).setCell ⟨gc, j + 1, none⟩ (.int .i64 z)) gp (m + 1) (fun j => (lc E i j : Nat)) ∧
              RowN ((wr.drewN q).setCell ⟨gc, j + 1, none⟩ (.int .i64 z)) gc (m + 1) f ∧ (∀ t, t ≤ j' → f t = (lc E (i + 1) t : Nat)) ∧ Below w.heap.size w ((wr.drewN q).setCell ⟨gc, j + 1, none⟩ (.int .i64 z))) := by
            intro q z hz
            refine ⟨j + 1, _, by go_num, by omega, (hrp2.drewN q).other gc _ _ hpc, (hrc2.drewN q).put (j + 1) z (by omega), fun t ht => ?_, (below_drewN' hbel2 q).setCell hgc _⟩
            by_cases e : t = j + 1
            · subst e; simp [hz]
            · simp only [if_neg e]; exact hf2 t (by omega)
          clear hf2 hrp2 hrc2 hbel2
          have hEij := HEQ.out i j hlt hjl
          cases hxy : (X i == Y j)
          · rw [hxy] at hEij
            have hmiss := lc_miss hEij
            clear hEij
            generalize lc E i (j + 1) = A at *
            generalize lc E (i + 1) j = C at *
            have HMISS : Hid _ := hmiss
            clear hmiss
            go_upto_region 10 with fail
            go_quiet (fail)
            by_cases hge : C ≤ A
            · go_upto_region 12 with fail
              go_quiet (fail)
              go_wp2_with fail
              go_roundw
              case rel => exact STEP.out _ _ (by rw [HMISS.out]; omega)
              case measure => simp [intOf]; omega
            · go_upto_region 12 with fail
              go_quiet (fail)
              go_wp2_with fail
              go_roundw
              case rel => exact STEP.out _ _ (by rw [HMISS.out]; omega)
              case measure => simp [intOf]; omega
          · rw [hxy] at hEij
            have hhit := lc_hit hEij
            have HHIT : Hid _ := hhit
            clear hEij hhit
            generalize lc E i j = A at *
            go_upto_region 10 with fail
            go_quiet (fail)
            go_wp2_with fail
            go_roundw
            case rel => exact STEP.out _ _ (by rw [HHIT.out]; omega)
            case measure => simp [intOf]; omega
        · obtain rfl : j = m := by omega
          go_wp2_with fail
          go_roundw
          case rel => exact ⟨i + 1, gc, gp, _, rfl, rfl, by go_num, by omega, hpc.symm, hgc, hgp, hrc2.congr (fun t ht => hf2 t (by omega)), hrp2, by simp [lc_left], hbel2⟩
          case measure => simp [intOf]; omega
    · obtain rfl : i = n := by omega
      have hpm := hrp.cell m (by omega)
      go_wp2_with fail
      go_ret
      exact ⟨rfl, hbel⟩
end Go.Proofs.Qxb6601753a
