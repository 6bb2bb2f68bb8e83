import Derived.Test.Qxb6601753aRev
namespace Go.Proofs.Qxb6601753a
open Go.ChangeShapes Go.WideShapes Go.ChangeAt Go.RowKit
set_option linter.unusedVariables false

theorem ed_length (L : List (Int × Int × Int)) : (L.flatMap ed).length = L.length * 3 := by
  induction L with
  | nil => rfl
  | cons e L ih => simp only [List.flatMap_cons, List.length_append, ih, ed, List.length_cons, List.length_nil]; omega

theorem ed_at (L : List (Int × Int × Int)) (t : Nat) (ht : t < L.length) :
    (L.flatMap ed)[t * 3]? = some (.int .i64 (L.getD t (0, 0, 0)).1) ∧ (L.flatMap ed)[t * 3 + 1]? = some (.int .i64 (L.getD t (0, 0, 0)).2.1) ∧ (L.flatMap ed)[t * 3 + 2]? = some (.int .i64 (L.getD t (0, 0, 0)).2.2) := by
  induction L generalizing t with
  | nil => simp at ht
  | cons e L ih =>
    cases t with
    | zero => exact ⟨rfl, rfl, rfl⟩
    | succ t =>
      have := ih t (by simpa using ht)
      simp only [List.flatMap_cons, ed]
      rw [show (t + 1) * 3 = t * 3 + 3 by omega]
      simpa [List.getD_cons_succ] using this

theorem RowE.of_owns {w : World} {base g cap n : Nat} {tag : TypeId} {L : List (Int × Int × Int)} (h : w.ownsRow base tag 3 (.slice (some ⟨g, 0, none⟩) n cap) n (L.flatMap ed)) : RowE w g cap tag n (fun t => L.getD t (0, 0, 0)) := by
  have hl : L.length = n := by have := h.1; rw [ed_length] at this; omega
  rcases h.2 with ⟨h', _⟩ | ⟨g', cap', cur, h', hb, hg, hnc, hcm, hcs, htake⟩
  · simp at h'
  · simp only [Value.slice.injEq, Option.some.injEq, Addr.mk.injEq, and_true, true_and] at h'
    obtain ⟨rfl, rfl⟩ := h'
    refine ⟨cur, hg, hcs, hnc, hcm, fun t ht => ?_⟩
    have := ed_at L t (by omega)
    rw [← htake, List.getElem?_take, List.getElem?_take, List.getElem?_take, if_pos (by omega), if_pos (by omega), if_pos (by omega)] at this
    simpa using this

theorem ed_one (e : Int × Int × Int) (u : Value) (h : u ∈ ed e) : u.oneCell' = true := by
  simp only [ed, List.mem_cons, List.not_mem_nil, or_false] at h
  rcases h with rfl | rfl | rfl <;> rfl

/-- The new block of one edit, ahead of an append. -/
theorem ed_new (w : World) (e : Int × Int × Int) (j : Nat) (u : Value) (h : (ed e)[j]? = some u) : (w.alloc (.cells #[.int .i64 e.1, .int .i64 e.2.1, .int .i64 e.2.2] 39)).cell? ((⟨w.heap.size, 0, none⟩ : Addr).add j) = some u := by
  rw [add_plain, Nat.zero_add, World.cell?_alloc_new]
  rw [← h]; simp [ed]

def repl (n : Nat) (t : Nat) : Int × Int × Int := if t < n then (1, (t : Int), 0) else (2, 0, ((t - n : Nat) : Int))

set_option maxHeartbeats 2000000 in
theorem replacingEdit_any (n m : Nat) (w : World) (hn : n ≤ 100000) (hm : m ≤ 100000) :
    Calls Try.prog 15 #[.int .i64 n, .int .i64 m] w fun e w' => e = .returned (.slice (some ⟨w.heap.size, 0, none⟩) (n + m) (n + m)) ∧ RowE w' w.heap.size (n + m) 39 (n + m) (repl n) ∧ Below w.heap.size w w' ∧ w.heap.size < w'.heap.size := by
  obtain ⟨i0, hi, hz0, hz1, hz2⟩ := info_parts info39
  go_enter Try.func15, Try.ntmps15
  go_wp2_with (first
    | (at_make; refine wpList_make_own _ rfl _ _ 35 rfl w.heap.size 39 i0 _ 3 Try.underlying35 hi hz0 hz1 .i64 .i64 _ (n + m) rfl rfl (by omega) (by rw [hz2]; omega) (by unfold maxLen; omega) (Nat.le_refl _) ?_; intro w1 hown1 hgrow1))
  have hb1 : Below w.heap.size w w1 := (Below.refl _ _).grown hgrow1 (Nat.le_refl _) (fun k hk => by cases hk)
  go_loopw [5, 13] (fun v i wr => ∃ k : Nat, k ≤ n ∧ i = .int .i64 k ∧ v = .slice (some ⟨w.heap.size, 0, none⟩) k (n + m) ∧
      wr.ownsRow w.heap.size 39 3 (.slice (some ⟨w.heap.size, 0, none⟩) k (n + m)) k (((List.range k).map (repl n)).flatMap ed) ∧ Below w.heap.size w wr) (fun _ i _ => n - (intOf i).toNat)
  case atStart => exact ⟨0, Nat.zero_le _, rfl, rfl, hown1, hb1⟩
  case round =>
    obtain ⟨k, hk, rfl, rfl, hrow, hbel⟩ := hrel
    clear hown1 hgrow1 hb1
    by_cases hlt : k < n
    · go_wp2_with (first
        | (at_builtin; refine wpList_append_fits _ rfl _ _ 35 rfl w.heap.size 39 i0 3 Try.underlying35 hi hz1 w.heap.size k (n + m) (((List.range k).map (repl n)).flatMap ed) rfl (hrow.alloc _) ⟨wr.heap.size, 0, none⟩ 1 1 (ed (1, (k : Int), 0)) rfl rfl (ed_new wr (1, (k : Int), 0)) (ed_one _) (by omega) ?_; intro w2 hown2 hgrow2))
      go_roundw
      case rel =>
        refine ⟨k + 1, by omega, by go_num, rfl, ?_, ?_⟩
        · rw [List.range_succ, List.map_append, List.flatMap_append]
          have : repl n k = (1, (k : Int), 0) := by unfold repl; rw [if_pos hlt]
          simpa [this] using hown2
        · exact (hbel.alloc hbel.size _).grown hgrow2 (by simp; have := hbel.size; omega) (fun k hk => by cases hk; exact Nat.le_refl _)
      case measure => simp [intOf]; omega
    · obtain rfl : k = n := by omega
      go_wp2
      go_loopw [5, 23] (fun v i wr => ∃ j : Nat, j ≤ m ∧ i = .int .i64 j ∧ v = .slice (some ⟨w.heap.size, 0, none⟩) (k + j) (k + m) ∧
          wr.ownsRow w.heap.size 39 3 (.slice (some ⟨w.heap.size, 0, none⟩) (k + j) (k + m)) (k + j) (((List.range (k + j)).map (repl k)).flatMap ed) ∧ Below w.heap.size w wr) (fun _ i _ => m - (intOf i).toNat)
      case atStart => exact ⟨0, Nat.zero_le _, rfl, rfl, hrow, hbel⟩
      case round =>
        obtain ⟨j, hj, rfl, rfl, hrow2, hbel2⟩ := hrel
        clear hrow hbel
        by_cases hlt2 : j < m
        · go_wp2_with (first
            | (at_builtin; refine wpList_append_fits _ rfl _ _ 35 rfl w.heap.size 39 i0 3 Try.underlying35 hi hz1 w.heap.size (k + j) (k + m) (((List.range (k + j)).map (repl k)).flatMap ed) rfl (hrow2.alloc _) ⟨_, 0, none⟩ 1 1 (ed (2, 0, (j : Int))) rfl rfl (ed_new _ (2, 0, (j : Int))) (ed_one _) (by omega) ?_; intro w2 hown2 hgrow2))
          go_roundw
          case rel =>
            refine ⟨j + 1, by omega, by go_num, rfl, ?_, ?_⟩
            · rw [← Nat.add_assoc, List.range_succ, List.map_append, List.flatMap_append]
              have : repl k (k + j) = (2, 0, (j : Int)) := by unfold repl; rw [if_neg (by omega)]; simp
              simpa [this] using hown2
            · exact (hbel2.alloc hbel2.size _).grown hgrow2 (by simp; have := hbel2.size; omega) (fun k hk => by cases hk; exact Nat.le_refl _)
          case measure => simp [intOf]; omega
        · obtain rfl : j = m := by omega
          go_wp2
          go_ret
          refine ⟨rfl, (RowE.of_owns hrow2).congr ?_, hbel2, ?_⟩
          · intro t ht
            simp [List.getD_eq_getElem?_getD, ht]
          · have := (hrow2.lt w.heap.size rfl).2; exact this
end Go.Proofs.Qxb6601753a
