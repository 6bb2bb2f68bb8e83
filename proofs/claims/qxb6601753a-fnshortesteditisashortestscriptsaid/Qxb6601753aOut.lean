import Derived.Test.Qxb6601753aRepl
namespace Go.Proofs.Qxb6601753a
open Go.ChangeShapes Go.WideShapes Go.ChangeAt Go.RowKit
set_option linter.unusedVariables false

theorem RowE.made {w : World} {base g n : Nat} {tag : TypeId} (h : w.ownsRow base tag 3 (.slice (some ⟨g, 0, none⟩) n n) n (madeCells (Value.agg #[.int .i64 0, .int .i64 0, .int .i64 0]).cells (n * 3)).toList) : RowE w g n tag n (fun _ => (0, 0, 0)) := by
  rcases h.2 with ⟨h', _⟩ | ⟨g', cap', cur, h', hb, hg, hnc, hcm, hcs, htake⟩
  · simp at h'
  · simp only [Value.slice.injEq, Option.some.injEq, Addr.mk.injEq, and_true, true_and] at h'
    obtain ⟨rfl, rfl⟩ := h'
    have key : ∀ j, j < n * 3 → cur[j]? = some (.int .i64 0) := by
      intro j hj
      have e1 : cur[j]? = (cur.toList.take (n * 3))[j]? := by rw [List.getElem?_take, if_pos hj]; simp
      rw [e1, htake]
      simp [madeCells, Value.cells, hj]
      have : j % 3 = 0 ∨ j % 3 = 1 ∨ j % 3 = 2 := by omega
      rcases this with h | h | h <;> rw [h] <;> rfl
    exact ⟨cur, hg, hcs, hnc, hcm, fun t ht => ⟨key _ (by omega), key _ (by omega), key _ (by omega)⟩⟩

theorem RowE.below {w w' : World} {B g cap : Nat} {tag : TypeId} {n : Nat} {f : Nat → Int × Int × Int} (h : RowE w g cap tag n f) (hb : Below B w w') (hg : g < B) : RowE w' g cap tag n f := by
  obtain ⟨cur, h1, h2⟩ := h
  exact ⟨cur, (hb.block g hg).trans h1, h2⟩
theorem RowE.lt {w : World} {g cap : Nat} {tag : TypeId} {n : Nat} {f : Nat → Int × Int × Int} (h : RowE w g cap tag n f) : g < w.heap.size := by
  obtain ⟨cur, h1, h2⟩ := h
  exact (Array.getElem?_eq_some_iff.1 h1).1

theorem editsOut_nil (w : World) :
    Calls Try.prog 13 #[.slice none 0 0] w fun e w' => e = .returned (.slice none 0 0) ∧ w' = w := by
  have q35 := fun (w : World) => Lib.run_eql_slice_nil w 35 39 none 0 0 0 0 Try.underlying35
  go_enter Try.func13, Try.ntmps13
  go_wp2
  go_ret
  exact ⟨rfl, rfl⟩

set_option maxHeartbeats 2000000 in
theorem editsOut_some (g cap n : Nat) (f : Nat → Int × Int × Int) (w : World) (hn : n ≤ 1000000) (h : RowE w g cap 39 n f) :
    Calls Try.prog 13 #[.slice (some ⟨g, 0, none⟩) n cap] w fun e w' => e = .returned (.slice (some ⟨w.heap.size, 0, none⟩) n n) ∧ RowE w' w.heap.size n 32 n f ∧ Below w.heap.size w w' := by
  have q35 := fun (w : World) => Lib.run_eql_slice_nil w 35 39 (some ⟨g, 0, none⟩) n cap 0 0 Try.underlying35
  obtain ⟨i0, hi, hz0, hz1, hz2⟩ := info_parts info32
  have hgl := h.lt
  go_enter Try.func13, Try.ntmps13
  go_wp2_with (first
    | (at_make; refine wpList_make_full _ rfl _ _ 24 rfl w.heap.size 32 i0 _ 3 Try.underlying24 hi hz0 hz1 .i64 .i64 _ _ n rfl rfl (by omega) (by omega) (by rw [hz2]; omega) (by unfold maxLen; omega) (Nat.le_refl _) ?_; intro w1 hown1 hgrow1))
  have hb1 : Below w.heap.size w w1 := (Below.refl _ _).grown hgrow1 (Nat.le_refl _) (fun k hk => by cases hk)
  have hr1 := RowE.made hown1
  clear hown1 hgrow1
  go_loopw [4] (fun i wr => ∃ k : Nat, k ≤ n ∧ i = .int .i64 k ∧ RowE wr w.heap.size n 32 n (fun t => if t < k then f t else (0, 0, 0)) ∧ Below w.heap.size w wr) (fun i _ => n - (intOf i).toNat)
  case atStart => exact ⟨0, Nat.zero_le _, rfl, hr1.congr (fun t ht => by rw [if_neg (by omega)]), hb1⟩
  case round =>
    obtain ⟨k, hk, rfl, hr, hb⟩ := hrel
    clear hr1 hb1
    by_cases hlt : k < n
    · have hs := h.below hb hgl
      obtain ⟨a0, a1, a2⟩ := hs.cells k hlt
      obtain ⟨b0, b1, b2⟩ := hr.cells k hlt
      have hfz := hr.frozen
      clear hs
      go_wp2
      go_region
      all_goals go_wp2
      go_roundw
      case rel =>
        have p1 := (hr.put k (f k)).drew
        refine ⟨k + 1, by omega, by go_num, p1.congr ?_, ?_⟩
        · intro t ht
          by_cases e : t = k
          · subst e; simp
          · rw [if_neg e]
            by_cases e2 : t < k
            · rw [if_pos e2, if_pos (by omega)]
            · rw [if_neg e2, if_neg (by omega)]
        · exact (((hb.setCell (Nat.le_refl _) _).setCell (Nat.le_refl _) _).setCell (Nat.le_refl _) _).drew
      case measure => simp [intOf]; omega
    · obtain rfl : k = n := by omega
      go_wp2
      go_ret
      exact ⟨rfl, hr.congr (fun t ht => by rw [if_pos ht]), hb⟩
end Go.Proofs.Qxb6601753a
