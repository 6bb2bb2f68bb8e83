import Derived.Test.Qxb6601753aZZ
import Derived.Laws.CopyOwn
import Derived.Laws.StructEq
namespace Go.Proofs.Qxb6601753a
open Go.ChangeShapes Go.WideShapes Go.ChangeAt Go.RowKit
open Plain
set_option linter.unusedVariables false

/-- A sequence against itself. -/
theorem lc_self (X : Nat → Int) (n : Nat) : lc (EQ X X n n) n n = n := by
  have := lc_snake (E := EQ X X n n) 0 0 n (fun u hu => by simp [EQ, hu])
  simpa [lc_zero] using this
theorem dist_self (X : Nat → Int) (n : Nat) : dist (EQ X X n n) n n = 0 := by unfold dist; rw [lc_self]; omega

theorem keeps_only {E : Nat → Nat → Bool} {n m : Nat} (L : List (Int × Int × Int)) : ∀ i j, Valid E n m i j L → chg L = 0 → L.length + i = n ∧ ∀ t, t < L.length → L.getD t (0, 0, 0) = (0, ((i + t : Nat) : Int), ((j + t : Nat) : Int)) := by
  induction L with
  | nil => intro i j h _; simp [Valid] at h; simp; omega
  | cons e L ih =>
    intro i j h hc
    simp only [Valid] at h
    simp only [chg] at hc
    rcases h with ⟨rfl, _, h⟩ | ⟨rfl, _, h⟩ | ⟨rfl, _, h⟩
    · obtain ⟨h1, h2⟩ := ih _ _ h (by omega)
      refine ⟨by simp; omega, fun t ht => ?_⟩
      cases t with
      | zero => simp
      | succ t =>
        rw [List.getD_cons_succ, h2 t (by simpa using ht)]
        simp; omega
    · simp at hc
    · simp at hc

theorem neq_same (a b c : Int) (w : World) : (binOp .neq 32 (.agg #[.int .i64 a, .int .i64 b, .int .i64 c]) (.agg #[.int .i64 a, .int .i64 b, .int .i64 c])).run Try.prog w = .ok (.bool false) w := by
  have u3 := Try.underlying3
  have a3 := Try.isAgg3
  have z3 := Try.sizeOf3
  have hS : Try.prog.underlying 32 = some (.struct (Try.prog.fieldsOf 32)) := by kernel_rfl
  have hp : Try.prog.stoodInHeld 32 = false := by kernel_rfl
  rw [run_neq_struct, show (10000 : Nat) = 9999 + 1 from rfl, run_equalIn_agg w 9999 32 _ _ hS hp]
  simp only [Program.fieldsOf, Try.underlying32]
  go_simp

theorem neq_nil (w : World) (t e : TypeId) (a : Option Addr) (l c : Nat) (h : Try.prog.underlying t = some (.slice e)) : (binOp .neq t (.slice a l c) (.slice none 0 0)).run Try.prog w = .ok (.bool (!a.isNone)) w := by
  have h1 := Lib.run_equalIn_slice_nil w 9999 t e a l c 0 0 h
  simp only [binOp]
  simp [Op.equal, Op.maxDepth, h1]

theorem bytes12 (a : Option Addr) (n c : Nat) (b : Int) (w : World) (hm : n ≤ maxLen) :
    Calls Try.prog 12 #[.slice a n c, .int .i64 b] w fun e w' => e = .returned (.bool (decide (n ≤ 1048576))) ∧ w' = w := by
  unfold maxLen at hm
  by_cases h : n ≤ 1048576
  · rw [decide_eq_true h]
    go_enter Try.func12, Try.ntmps12
    go_wp2
    go_ret
    exact ⟨rfl, rfl⟩
  · rw [decide_eq_false h]
    go_enter Try.func12, Try.ntmps12
    go_wp2
    go_ret
    exact ⟨rfl, rfl⟩

set_option maxHeartbeats 1000000 in
theorem self_out (a : Option Addr) (n c : Nat) (B : Int) (w : World) (hm : n ≤ maxLen) (h : ¬ (n ≤ 65536 ∧ -1073741824 ≤ B)) :
    Calls Try.prog 5 #[.slice a n c, .int .i64 B] w fun e w' => e = .returned (.bool true) ∧ w' = w := by
  have HM : Hid _ := hm
  by_cases h1 : n ≤ 1048576
  · by_cases h2 : n ≤ 65536
    · have h3 : B < -1073741824 := by omega
      clear h
      go_enter Try.func5, Try.ntmps5
      go_wp2_with (go_at_call 12; refine (bytes12 _ _ _ _ _ HM.out).mono ?_; rw [decide_eq_true h1]; rintro e w' ⟨rfl, rfl⟩)
      go_ret
      exact ⟨rfl, rfl⟩
    · clear h
      go_enter Try.func5, Try.ntmps5
      go_wp2_with (go_at_call 12; refine (bytes12 _ _ _ _ _ HM.out).mono ?_; rw [decide_eq_true h1]; rintro e w' ⟨rfl, rfl⟩)
      go_ret
      exact ⟨rfl, rfl⟩
  · clear h
    go_enter Try.func5, Try.ntmps5
    go_wp2_with (go_at_call 12; refine (bytes12 _ _ _ _ _ HM.out).mono ?_; rw [decide_eq_false h1]; rintro e w' ⟨rfl, rfl⟩)
    go_ret
    exact ⟨rfl, rfl⟩

set_option maxRecDepth 100000 in
set_option maxHeartbeats 1000000 in
theorem self_nil (B : Int) (w : World) (h : -1073741824 ≤ B) :
    Calls Try.prog 5 #[.slice none 0 0, .int .i64 B] w fun e w' => e = .returned (.bool true) ∧ Below w.heap.size w w' := by
  have q22 := fun (w : World) => neq_nil w 22 3 none 0 0 Try.underlying22
  have q24 := fun (w : World) (g : Addr) => neq_nil w 24 32 (some g) 0 0 Try.underlying24
  have HM : Hid ((0 : Nat) ≤ maxLen) := Nat.zero_le _
  go_enter Try.func5, Try.ntmps5
  go_wp2_with (first
    | (go_at_call 12; refine (bytes12 _ _ _ _ _ HM.out).mono ?_; rw [decide_eq_true (by omega)]; rintro e w ⟨rfl, rfl⟩)
    | (go_at_call 7; refine (zz_empty 0 0 _ _ _ _ _ _ (by omega) (by omega) (.inl rfl)).mono ?_; rintro e w2 ⟨g, rfl, hr, hb⟩; have hcb : w2.cell? ⟨w.heap.size, 0, none⟩ = some (.int .i64 B) := (hb.cell (p := ⟨w.heap.size, 0, none⟩) (by simp)).trans (by simp)))
  go_ret
  exact ⟨by simp, ((Below.refl _ _).alloc (Nat.le_refl _) _).trans (hb.mono (by simp))⟩

/-- What 'make' and 'copy' leave: a block of the call's own with the same numbers. -/
theorem made_block {w : World} {base g n : Nat} (h : w.ownsRow base 3 1 (.slice (some ⟨g, 0, none⟩) n n) n (madeCells (Value.int .i64 0).cells (n * 1)).toList) : w.heap[g]? = some (.cells (List.replicate n (Value.int .i64 0)).toArray 3 (0, 0)) := by
  rcases h.2 with ⟨h', _⟩ | ⟨g', cap', cur, h', hb, hg, hnc, hcm, hcs, htake⟩
  · simp at h'
  · simp only [Value.slice.injEq, Option.some.injEq, Addr.mk.injEq, and_true, true_and] at h'
    obtain ⟨rfl, rfl⟩ := h'
    have e2 : (Value.int .i64 0).cells = #[.int .i64 0] := rfl
    rw [e2, toList_madeCells_one, List.take_of_length_le (by simp [hcs])] at htake
    rw [hg, ← Array.toArray_toList (xs := cur), htake]; simp

theorem info3s : (Try.prog.info? 3).map (·.size) = some 1 := by kernel_rfl

theorem splice_all {α : Type} (L cs : List α) (h : cs.length = L.length) : splice L 0 cs = cs := by simp [splice, h]

theorem cells_of_copy {w : World} {g n : Nat} {zs : List Int} (hz : n ≤ zs.length) (h : w.heap[g]? = some (.cells ((zs.take n).map (Value.int .i64)).toArray 3 (0, 0))) (t : Nat) (ht : t < n) : w.cell? ⟨g, t, none⟩ = some (.int .i64 (zs.getD t 0)) := by
  rw [cell_of_row w g t _ 3 (0, 0) h]
  have : t < zs.length := by omega
  simp [ht, List.getD_eq_getElem?_getD, this]

set_option maxRecDepth 100000 in
set_option maxHeartbeats 2000000 in
theorem self_in (x : Addr) (n c : Nat) (zs : List Int) (B : Int) (w : World) (hn : n ≤ 65536) (hz : n ≤ zs.length) (hc : ∀ i, i < n → w.cell? (x.add i) = some (.int .i64 (zs.getD i 0))) (h1 : -1073741824 ≤ B) (h2 : B ≤ 9223372036854775807) :
    Calls Try.prog 5 #[.slice (some x) n c, .int .i64 B] w fun e w' => e = .returned (.bool true) ∧ Below w.heap.size w w' := by
  have q22 := fun (w : World) => neq_nil w 22 3 (some x) n c Try.underlying22
  have HM : Hid (n ≤ maxLen) := by show n ≤ maxLen; unfold maxLen; omega
  have HC : Hid _ := hc
  clear hc
  obtain ⟨i0, hi, hz0, hz1, hz2⟩ := info_parts info3
  obtain ⟨cs, hcs⟩ : ∃ cs, cs = (zs.take n).map (Value.int .i64) := ⟨_, rfl⟩
  have hcl : cs.length = n := by rw [hcs]; simp; omega
  have hc1 : ∀ v ∈ cs, v.oneCell' = true := by
    rw [hcs]; intro v hv; obtain ⟨z, _, rfl⟩ := List.mem_map.1 hv; rfl
  have HCS : Hid _ := hcs
  have HSRC : Hid (∀ j v, cs[j]? = some v → w.cell? (x.add j) = some v) := by
    intro j v hj
    have hj' : j < n := by have := (List.getElem?_eq_some_iff.1 hj).1; omega
    rw [HC.out j hj', ← hj, hcs]
    have : j < zs.length := by omega
    simp [hj', List.getD_eq_getElem?_getD, this]
  have HCL : Hid _ := hcl
  clear hcs hcl
  go_enter Try.func5, Try.ntmps5
  go_wp2_with (first
    | (go_at_call 12; refine (bytes12 _ _ _ _ _ HM.out).mono ?_; rw [decide_eq_true (by omega)]; rintro e w' ⟨rfl, hw⟩; obtain rfl := hw.symm)
    | (at_make; refine wpList_make_full _ rfl _ _ 22 rfl w.heap.size 3 i0 _ 1 Try.underlying22 hi hz0 hz1 .i64 .i64 _ _ n rfl rfl (by omega) (by omega) (by rw [hz2]; omega) (by unfold maxLen; omega) (Nat.le_refl _) ?_; intro w1 hown1 hgrow1; have hb1 : Below w.heap.size w w1 := (Below.refl _ _).grown hgrow1 (Nat.le_refl _) (fun k hk => by cases hk))
    | (refine wpList_copy_splice rfl (.tmp 24) (.tmp 25) 22 22 rfl 3 Try.underlying22 info3s _ _ _ _ _ _ rfl rfl w.heap.size 0 _ 3 (made_block hown1) cs (by rw [HCL.out]; simp) (fun _ => ⟨rfl, x, rfl, fun j v hj => (hb1.cell (p := x.add j) (World.block_lt_of_cell? _ _ (HSRC.out j v hj))).trans (HSRC.out j v hj)⟩) (by rw [HCL.out]; simp) hc1 w.heap.size w hb1 (Nat.le_refl _) ?_; intro w2 hblk hb2))
  have hblk2 : w2.heap[w.heap.size]? = some (.cells ((zs.take n).map (Value.int .i64)).toArray 3 (0, 0)) := by
    rw [← HCS.out]
    have h5 := hblk.out
    rwa [splice_all _ _ (by rw [HCL.out]; simp)] at h5
  have hlt2 := lt_of_block hblk2
  have hcx : ∀ t, t < n → (w2.alloc (.cells #[.int .i64 B] 3)).cell? ⟨w.heap.size, t, none⟩ = some (.int .i64 (zs.getD t 0)) := by
    intro t ht
    rw [World.cell?_alloc_past _ _ _ hlt2]; exact cells_of_copy hz hblk2 t ht
  have hbb : (w2.alloc (.cells #[.int .i64 B] 3)).heap[w2.heap.size]? = some (.cells #[.int .i64 B] 3 (0, 0)) := heap_alloc_new w2 _
  have hb3 : Below w.heap.size w (w2.alloc (.cells #[.int .i64 B] 3)) := hb2.alloc hb2.size _
  have HCX : Hid _ := hcx
  have HBB : Hid _ := hbb
  clear hcx hbb hblk2 hblk hb1 hown1 hgrow1
  by_cases hn0 : n = 0
  · subst hn0
    have q24 := fun (w : World) (g : Addr) => neq_nil w 24 32 (some g) 0 0 Try.underlying24
    refine (zz_empty 0 0 _ _ _ _ _ _ (by omega) (by omega) (.inl rfl)).mono ?_
    rintro e w4 ⟨g, rfl, hr, hb4⟩
    have hcb : w4.cell? ⟨w2.heap.size, 0, none⟩ = some (.int .i64 B) := (hb4.cell (p := ⟨w2.heap.size, 0, none⟩) (by simp)).trans (cell_of_one HBB.out)
    go_wp2_with fail
    go_ret
    exact ⟨by simp, hb3.trans (hb4.mono hb3.size)⟩
  · have hnb : ((n : Int) == 0) = false := by simp; omega
    refine (zz_any n n w.heap.size n w.heap.size n w2.heap.size (fun t => zs.getD t 0) (fun t => zs.getD t 0) B _ hn hn (by omega) (by omega) h1 h2 HCX.out HCX.out HBB.out (by omega) (by omega)).mono ?_
    rintro e w4 ⟨hg4, b', hb4, ⟨rfl, d, s, hd, hbe, hbn, hs0, hs1, hsz⟩ | ⟨g, L, D, s, rfl, hr, hv, hch, hD, hbe, hle, hlc, hs1, hsz⟩⟩
    · rw [dist_self] at hd
      obtain rfl : d = 0 := by omega
      have hs := hsz rfl
      subst hs
      have hb' : b' = B - 1 := by rw [hbe]; simp
      subst hb'
      have hcb := cell_of_one hb4
      have hB : B < 1 := by omega
      have hend : Below w.heap.size w w4 := hb3.grown hg4 hb3.size (by intro k hk; cases hk; omega)
      have q24 := fun (w : World) => Lib.run_eql_slice_nil w 24 32 none 0 0 0 0 Try.underlying24
      clear hbe
      go_wp2_with fail
      go_ret
      exact ⟨by simp, hend⟩
    · rw [dist_self] at hD
      subst hD
      have hs := hsz rfl
      subst hs
      obtain ⟨hL, hLt⟩ := keeps_only L 0 0 hv hch
      have hLn : L.length = n := by omega
      have hb' : b' = B - 1 - n := by rw [hbe]; simp
      subst hb'
      have hcb := cell_of_one hb4
      have hB : 1 ≤ B := by simpa using hle
      have hend : Below w.heap.size w w4 := hb3.grown hg4 hb3.size (by intro k hk; cases hk; omega)
      rw [hLn] at hr ⊢
      have hr' : RowE w4 g n 32 n (fun t => (0, (t : Int), (t : Int))) := hr.congr (fun t ht => by rw [hLt t (by omega)]; simp)
      have q24 := fun (w : World) => Lib.run_eql_slice_nil w 24 32 (some ⟨g, 0, none⟩) n n 0 0 Try.underlying24
      clear hbe hr hLt hL hLn hv hch hlc hs1 hsz
      go_wp2_with fail
      go_loop [9] (fun iv => ∃ k : Nat, k ≤ n ∧ iv = .int .i64 k) (fun iv => n - (intOf iv).toNat)
      case atStart => exact ⟨0, Nat.zero_le _, rfl⟩
      case round =>
        obtain ⟨k, hk, rfl⟩ := hrel
        by_cases hlt : k < n
        · obtain ⟨c0, c1, c2⟩ := hr'.cells k hlt
          have hq := fun w => neq_same 0 (k : Int) (k : Int) w
          go_wp2_with fail
          go_round
          case rel => exact ⟨k + 1, by omega, by go_num⟩
          case measure => simp [intOf]; omega
        · go_wp2_with fail
          go_ret
          exact ⟨rfl, hend⟩
end Go.Proofs.Qxb6601753a
