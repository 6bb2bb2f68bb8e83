import Derived.Test.Qxb6601753aLaw3
namespace Go.Proofs.Qxb6601753a
open Go.ChangeShapes Go.WideShapes Go.ChangeAt Go.RowKit
open Plain
set_option linter.unusedVariables false

/-- A slice of numbers that came in: nil, or its cells. -/
def Src (w : World) (a : Option Addr) (n : Nat) (X : Nat → Int) : Prop :=
  (a = none ∧ n = 0) ∨ ∃ x, a = some x ∧ ∀ t, t < n → w.cell? (x.add t) = some (.int .i64 (X t))

theorem Src.below {w w' : World} {a : Option Addr} {n : Nat} {X : Nat → Int} (h : Src w a n X) (hb : Below w.heap.size w w') : Src w' a n X := by
  rcases h with h | ⟨x, rfl, h⟩
  · exact .inl h
  · exact .inr ⟨x, rfl, fun t ht => (hb.cell (World.block_lt_of_cell? _ _ (h t ht))).trans (h t ht)⟩

/-- The copy that the law lays: nil stays nil; else a new block with the same numbers. -/
def Cpy (B : Nat) (w : World) (v : Value) (n : Nat) (X : Nat → Int) (a : Option Addr) (b : Nat) : Prop :=
  (∃ c, v = .slice a n c) ∧ (0 < n → a = some ⟨b, 0, none⟩) ∧ B ≤ b ∧ ∀ t, t < n → w.cell? ⟨b, t, none⟩ = some (.int .i64 (X t))

theorem cpy_of {B g n : Nat} {w : World} {cs : List Value} {X : Nat → Int} (hcs : cs = (List.range n).map fun t => Value.int .i64 (X t)) (h : w.heap[g]? = some (.cells (splice (List.replicate n (Value.int .i64 0)) 0 cs).toArray 3 (0, 0))) (hB : B ≤ g) :
    Cpy B w (.slice (some ⟨g, 0, none⟩) n n) n X (some ⟨g, 0, none⟩) g := by
  refine ⟨⟨n, rfl⟩, fun _ => rfl, hB, fun t ht => ?_⟩
  rw [splice_all _ _ (by rw [hcs]; simp), hcs] at h
  rw [cell_of_row w g t _ 3 (0, 0) h]
  simp [ht]

set_option maxRecDepth 100000 in
set_option maxHeartbeats 8000000 in
theorem law3_in (ax ay : Option Addr) (n cx m cy : Nat) (X Y : Nat → Int) (B : Int) (w : World) (hn : n ≤ 1024) (hm : m ≤ 1024) (hB1 : -1073741824 ≤ B) (hB2 : B ≤ 9223372036854775807)
    (hx : Src w ax n X) (hy : Src w ay m Y) (hcx : ax = none → cx = 0) (hcy : ay = none → cy = 0) :
    Calls Try.prog 3 #[.slice ax n cx, .slice ay m cy, .int .i64 B] w fun e w' => e = .returned (.bool true) ∧ Below w.heap.size w w' := by
  obtain ⟨i0, hi, hz0, hz1, hz2⟩ := info_parts info3
  have q1 := fun (w : World) => neq_nil w 22 3 ax n cx Try.underlying22
  have q2 := fun (w : World) => neq_nil w 22 3 ay m cy Try.underlying22
  obtain ⟨cs, hcs⟩ : ∃ cs, cs = (List.range n).map fun t => Value.int .i64 (X t) := ⟨_, rfl⟩
  obtain ⟨ds, hds⟩ : ∃ ds, ds = (List.range m).map fun t => Value.int .i64 (Y t) := ⟨_, rfl⟩
  have hcl : cs.length = n := by rw [hcs]; simp
  have hdl : ds.length = m := by rw [hds]; simp
  have hc1 : ∀ v ∈ cs, v.oneCell' = true := by
    rw [hcs]; intro v hv; obtain ⟨z, _, rfl⟩ := List.mem_map.1 hv; rfl
  have hd1 : ∀ v ∈ ds, v.oneCell' = true := by
    rw [hds]; intro v hv; obtain ⟨z, _, rfl⟩ := List.mem_map.1 hv; rfl
  have hcg : ∀ j v, cs[j]? = some v → j < n ∧ v = .int .i64 (X j) := by
    intro j v hj
    have hj' : j < n := by have := (List.getElem?_eq_some_iff.1 hj).1; omega
    rw [hcs] at hj; simp [hj'] at hj
    exact ⟨hj', hj.symm⟩
  have hdg : ∀ j v, ds[j]? = some v → j < m ∧ v = .int .i64 (Y j) := by
    intro j v hj
    have hj' : j < m := by have := (List.getElem?_eq_some_iff.1 hj).1; omega
    rw [hds] at hj; simp [hj'] at hj
    exact ⟨hj', hj.symm⟩
  have HCS : Hid _ := hcs
  have HDS : Hid _ := hds
  have HCL : Hid _ := hcl
  have HDL : Hid _ := hdl
  have HCG : Hid _ := hcg
  have HDG : Hid _ := hdg
  clear hcs hds hcl hdl hcg hdg
  go_enter Try.func3, Try.ntmps3
  go_upto_if 37 with (go_at_call 6; refine (bytes6_in _ _ _ _ _ _ _ _ hn hm).mono ?_; rintro e w' ⟨rfl, hw⟩; obtain rfl := hw.symm)
  go_cut [0, 7] (fun xv zv wx => ∃ a1 b1, Cpy w.heap.size wx xv n X a1 b1 ∧ Below w.heap.size w wx)
  case first =>
    rcases hx with ⟨rfl, rfl⟩ | ⟨x, rfl, hx⟩
    · obtain rfl := hcx rfl
      go_wp2_with fail
      go_meet
      case rel => exact ⟨none, w.heap.size, ⟨⟨0, rfl⟩, fun h => by omega, Nat.le_refl _, fun t ht => by omega⟩, Below.refl _ _⟩
    · have HSRC : Hid (∀ j v, cs[j]? = some v → w.cell? (x.add j) = some v) := by
        intro j v hj
        obtain ⟨h1, rfl⟩ := HCG.out j v hj
        exact hx j h1
      clear hx
      go_wp2_with (first
        | (at_make; refine wpList_make_full _ rfl _ _ 22 rfl w.heap.size 3 i0 _ 1 Try.underlying22 hi hz0 hz1 .i64 .i64 _ _ n rfl rfl (by omega) (by omega) (by rw [hz2]; omega) (by unfold maxLen; omega) (Nat.le_refl _) ?_; intro w1 hown1 hgrow1; have hb1 : Below w.heap.size w w1 := (Below.refl _ _).grown hgrow1 (Nat.le_refl _) (fun k hk => by cases hk))
        | (refine wpList_copy_splice rfl (.tmp 41) (.tmp 42) 22 22 rfl 3 Try.underlying22 info3s _ _ _ _ _ _ rfl rfl w.heap.size 0 _ 3 (made_block hown1) cs (by rw [HCL.out]; simp) (fun _ => ⟨rfl, x, rfl, fun j v hj => (hb1.cell (p := x.add j) (World.block_lt_of_cell? _ _ (HSRC.out j v hj))).trans (HSRC.out j v hj)⟩) (by rw [HCL.out]; simp) hc1 w.heap.size w hb1 (Nat.le_refl _) ?_; intro w2 hblk hb2))
      go_meet
      case rel => exact ⟨_, _, cpy_of HCS.out hblk.out (Nat.le_refl _), hb2⟩
  case rest =>
    obtain ⟨a1, b1, ⟨⟨c1, rfl⟩, hC2, hC3, hC4⟩, hbel1⟩ := hcut
    have HX : Hid _ := hC4
    clear hC4
    have hy1 := hy.below hbel1
    clear hy
    go_upto_if 46 with fail
    go_cut [1, 8] (fun yv zv wx => ∃ a2 b2, Cpy w.heap.size wx yv m Y a2 b2 ∧ Below wc.heap.size wc wx)
    case first =>
      rcases hy1 with ⟨rfl, rfl⟩ | ⟨x, rfl, hy1⟩
      · obtain rfl := hcy rfl
        go_wp2_with fail
        go_meet
        case rel => exact ⟨none, w.heap.size, ⟨⟨0, rfl⟩, fun h => by omega, Nat.le_refl _, fun t ht => by omega⟩, Below.refl _ _⟩
      · have HSRC : Hid (∀ j v, ds[j]? = some v → wc.cell? (x.add j) = some v) := by
          intro j v hj
          obtain ⟨h1, rfl⟩ := HDG.out j v hj
          exact hy1 j h1
        clear hy1
        go_wp2_with (first
          | (at_make; refine wpList_make_full _ rfl _ _ 22 rfl wc.heap.size 3 i0 _ 1 Try.underlying22 hi hz0 hz1 .i64 .i64 _ _ m rfl rfl (by omega) (by omega) (by rw [hz2]; omega) (by unfold maxLen; omega) (Nat.le_refl _) ?_; intro w1 hown1 hgrow1; have hb1 : Below wc.heap.size wc w1 := (Below.refl _ _).grown hgrow1 (Nat.le_refl _) (fun k hk => by cases hk))
          | (refine wpList_copy_splice rfl (.tmp 50) (.tmp 51) 22 22 rfl 3 Try.underlying22 info3s _ _ _ _ _ _ rfl rfl wc.heap.size 0 _ 3 (made_block hown1) ds (by rw [HDL.out]; simp) (fun _ => ⟨rfl, x, rfl, fun j v hj => (hb1.cell (p := x.add j) (World.block_lt_of_cell? _ _ (HSRC.out j v hj))).trans (HSRC.out j v hj)⟩) (by rw [HDL.out]; simp) hd1 wc.heap.size wc hb1 (Nat.le_refl _) ?_; intro w2 hblk hb2))
        go_meet
        case rel => exact ⟨_, _, cpy_of HDS.out hblk.out hbel1.size, hb2⟩
    case rest =>
      obtain ⟨a2, b2, ⟨⟨c2, rfl⟩, hD2, hD3, hD4⟩, hbel2⟩ := hcut
      go_wp2_with fail
      have hxw : ∀ t, t < n → wc.cell? ⟨b1, t, none⟩ = some (.int .i64 (X t)) := fun t ht => (hbel2.cell (World.block_lt_of_cell? _ _ (HX.out t ht))).trans (HX.out t ht)
      have hxz : ∀ t, t < n → (wc.alloc (.cells #[.int .i64 B] 3)).cell? ⟨b1, t, none⟩ = some (.int .i64 (X t)) := fun t ht => by
        rw [World.cell?_alloc_past _ _ _ (World.block_lt_of_cell? _ _ (hxw t ht))]; exact hxw t ht
      have hyz : ∀ t, t < m → (wc.alloc (.cells #[.int .i64 B] 3)).cell? ⟨b2, t, none⟩ = some (.int .i64 (Y t)) := fun t ht => by
        rw [World.cell?_alloc_past _ _ _ (World.block_lt_of_cell? _ _ (hD4 t ht))]; exact hD4 t ht
      have hbb : (wc.alloc (.cells #[.int .i64 B] 3)).heap[wc.heap.size]? = some (.cells #[.int .i64 B] 3 (0, 0)) := heap_alloc_new wc _
      have hbw : Below w.heap.size w wc := hbel1.trans (hbel2.mono hbel1.size)
      have hbz : Below w.heap.size w (wc.alloc (.cells #[.int .i64 B] 3)) := hbw.alloc hbw.size _
      have HXZ : Hid _ := hxz
      have HYZ : Hid _ := hyz
      have HBB : Hid _ := hbb
      have HN1 : Hid (0 < n → b1 ≠ wc.heap.size) := fun h => by have := World.block_lt_of_cell? _ _ (hxw 0 h); simp at this; omega
      have HN2 : Hid (0 < m → b2 ≠ wc.heap.size) := fun h => by have := World.block_lt_of_cell? _ _ (hD4 0 h); simp at this; omega
      have HA1 : Hid _ := hC2
      have HA2 : Hid _ := hD2
      clear hxz hyz hbb hxw hD4 HX hy1 hx hC2 hD2 q1 q2 HCS HDS HCL HDL HCG HDG hc1 hd1
      have q24 := fun (w : World) (g : Addr) (k : Nat) => neq_nil w 24 32 (some g) k k Try.underlying24
      have q25 := fun (w : World) (g : Addr) (k : Nat) => Lib.run_eql_slice_nil w 24 32 (some g) k k 0 0 Try.underlying24
      have q26 := fun (w : World) => Lib.run_eql_slice_nil w 24 32 none 0 0 0 0 Try.underlying24
      by_cases h0 : n = 0 ∨ m = 0
      · refine (zz_empty n m _ _ _ _ _ _ (by omega) (by omega) h0).mono ?_
        rintro e w4 ⟨g, rfl, hr, hb4⟩
        have hr' : RowE w4 g (n + m) 32 (n + m) (fun t => (allOut n m).getD t (0, 0, 0)) := hr.congr (fun t ht => allOut_get n m t ht)
        have HC8 := lcs_any n m b1 c1 b2 c2 a1 a2 X Y w4 (by omega) (by omega) HA1.out HA2.out (fun t ht => (hb4.cell (World.block_lt_of_cell? _ _ (HXZ.out t ht))).trans (HXZ.out t ht)) (fun t ht => (hb4.cell (World.block_lt_of_cell? _ _ (HYZ.out t ht))).trans (HYZ.out t ht))
        rw [lc_empty _ _ _ h0] at HC8
        have hbz4 : Below w.heap.size w w4 := hbz.trans (hb4.mono hbz.size)
        have hcb4 : w4.cell? ⟨wc.heap.size, 0, none⟩ = some (.int .i64 B) := (hb4.cell (p := ⟨wc.heap.size, 0, none⟩) (by simp)).trans (cell_of_one HBB.out)
        have hcl4 : wc.heap.size < w4.heap.size := World.block_lt_of_cell? _ _ hcb4
        have hchg := allOut_chg n m
        have hlen := allOut_length n m
        have hval := allOut_valid (EQ X Y n m) n m
        generalize allOut n m = L at hr' hchg hlen hval
        have HCHG : Hid _ := hchg
        have HLEN : Hid _ := hlen
        have HVAL : Hid _ := hval
        clear hr hchg hlen hval
        by_cases hn0 : n = 0
        · have hnb : ((n : Int) == 0) = true := by simp [hn0]
          clear hn0 h0
          go_wp2_with (first
            | (go_at_call 8; refine HC8.mono ?_; rintro e w5 ⟨rfl, hb5⟩; have hcb5 : w5.cell? ⟨wc.heap.size, 0, none⟩ = some (.int .i64 B) := (hb5.cell (p := ⟨wc.heap.size, 0, none⟩) hcl4).trans hcb4)
            | (go_at_call 9; refine (script_any g (n + m) n m b1 c1 b2 c2 a1 a2 X Y L _ HLEN.out.symm (by omega) (hr'.below hb5 hr'.lt) (by omega) (by omega) HA1.out HA2.out (fun t ht => ((hb4.trans (hb5.mono hb4.size)).cell (World.block_lt_of_cell? _ _ (HXZ.out t ht))).trans (HXZ.out t ht)) (fun t ht => ((hb4.trans (hb5.mono hb4.size)).cell (World.block_lt_of_cell? _ _ (HYZ.out t ht))).trans (HYZ.out t ht)) HVAL.out).mono ?_; rintro e w6 ⟨rfl, hb6⟩)
            | (go_at_call 10; refine (changes_any g (n + m) L _ HLEN.out.symm (by omega) (hr'.below (hb5.trans (hb6.mono hb5.size)) hr'.lt)).mono ?_; rw [HCHG.out]; rintro e w7 ⟨rfl, hw7⟩; subst hw7))
          go_ret
          exact ⟨rfl, hbz4.trans ((hb5.trans (hb6.mono hb5.size)).mono hbz4.size)⟩
        · have hnb : ((n : Int) == 0) = false := by simp; omega
          have hmb : ((m : Int) == 0) = true := by simp; omega
          clear hn0 h0
          go_wp2_with (first
            | (go_at_call 8; refine HC8.mono ?_; rintro e w5 ⟨rfl, hb5⟩; have hcb5 : w5.cell? ⟨wc.heap.size, 0, none⟩ = some (.int .i64 B) := (hb5.cell (p := ⟨wc.heap.size, 0, none⟩) hcl4).trans hcb4)
            | (go_at_call 9; refine (script_any g (n + m) n m b1 c1 b2 c2 a1 a2 X Y L _ HLEN.out.symm (by omega) (hr'.below hb5 hr'.lt) (by omega) (by omega) HA1.out HA2.out (fun t ht => ((hb4.trans (hb5.mono hb4.size)).cell (World.block_lt_of_cell? _ _ (HXZ.out t ht))).trans (HXZ.out t ht)) (fun t ht => ((hb4.trans (hb5.mono hb4.size)).cell (World.block_lt_of_cell? _ _ (HYZ.out t ht))).trans (HYZ.out t ht)) HVAL.out).mono ?_; rintro e w6 ⟨rfl, hb6⟩)
            | (go_at_call 10; refine (changes_any g (n + m) L _ HLEN.out.symm (by omega) (hr'.below (hb5.trans (hb6.mono hb5.size)) hr'.lt)).mono ?_; rw [HCHG.out]; rintro e w7 ⟨rfl, hw7⟩; subst hw7))
          go_ret
          exact ⟨rfl, hbz4.trans ((hb5.trans (hb6.mono hb5.size)).mono hbz4.size)⟩
      · have hn0 : 0 < n := by omega
        have hm0 : 0 < m := by omega
        have hnb : ((n : Int) == 0) = false := by simp; omega
        have hmb : ((m : Int) == 0) = false := by simp; omega
        clear h0
        obtain rfl := HA1.out hn0
        obtain rfl := HA2.out hm0
        have hDle : dist (EQ X Y n m) n m ≤ 2048 := by unfold dist; omega
        have hDeq := dist_eq (EQ X Y n m) n m
        have hli := lc_le_i (EQ X Y n m) n m
        obtain ⟨sq, tri, tr, pr, e1, e2, e3, e4, g1, g2, g3, g4, g5, g6, g7, g8, e5, e6⟩ := law_nums (dist (EQ X Y n m) n m) (min n m) hDle (by omega)
        refine (zz_any n m b1 c1 b2 c2 wc.heap.size X Y B _ (by omega) (by omega) hn0 hm0 hB1 hB2 HXZ.out HYZ.out HBB.out (HN1.out hn0) (HN2.out hm0)).mono ?_
        rintro e w4 ⟨hg4, b', hb4, hres⟩
        have hcx4 : ∀ t, t < n → w4.cell? ⟨b1, t, none⟩ = some (.int .i64 (X t)) := fun t ht => hg4.cell (HXZ.out t ht) (by simpa using HN1.out hn0)
        have hcy4 : ∀ t, t < m → w4.cell? ⟨b2, t, none⟩ = some (.int .i64 (Y t)) := fun t ht => hg4.cell (HYZ.out t ht) (by simpa using HN2.out hm0)
        have HC8 := lcs_any n m b1 c1 b2 c2 _ _ X Y w4 (by omega) (by omega) (fun _ => rfl) (fun _ => rfl) hcx4 hcy4
        have hbz4 : Below w.heap.size w w4 := hbz.grown hg4 hbz.size (by intro k hk; cases hk; have := hbw.size; omega)
        have hcb4 := cell_of_one hb4
        have hcl4 : wc.heap.size < w4.heap.size := World.block_lt_of_cell? _ _ hcb4
        generalize hDD : dist (EQ X Y n m) n m = D at *
        generalize hLL : lc (EQ X Y n m) n m = lcv at *
        have hdv : (n : Int) + m - 2 * (lcv : Int) = D := by omega
        have hlcv : (lcv : Int) ≤ 1024 := by omega
        have hDb : (D : Int) ≤ 2048 := by omega
        clear hDD hLL hDeq hb4
        rcases hres with ⟨rfl, d, s, hd, hbe, hbn, hs0, hs1, hsz⟩ | ⟨g, L, D', s, rfl, hr, hv, hch, hD', hbe, hle, hlc, hs1, hsz⟩
        · have hlt := nil_lt B b' s sq pr d D (min n m) hd hbe hbn hs1 e5 e6
          clear hbe hs1 hs0 hsz hd e5 e6
          by_cases hmn : m < n
          · rw [Nat.min_eq_right (by omega)] at e4
            go_wp2_with (go_at_call 8; refine HC8.mono ?_; rintro e w5 ⟨rfl, hb5⟩; have hcb5 : w5.cell? ⟨wc.heap.size, 0, none⟩ = some (.int .i64 b') := (hb5.cell (p := ⟨wc.heap.size, 0, none⟩) hcl4).trans hcb4)
            go_ret
            exact ⟨rfl, hbz4.trans (hb5.mono hbz4.size)⟩
          · rw [Nat.min_eq_left (by omega)] at e4
            go_wp2_with (go_at_call 8; refine HC8.mono ?_; rintro e w5 ⟨rfl, hb5⟩; have hcb5 : w5.cell? ⟨wc.heap.size, 0, none⟩ = some (.int .i64 b') := (hb5.cell (p := ⟨wc.heap.size, 0, none⟩) hcl4).trans hcb4)
            go_ret
            exact ⟨rfl, hbz4.trans (hb5.mono hbz4.size)⟩
        · obtain ⟨_, _, hlen⟩ := valid_length EQ_lt _ _ _ hv
          subst hD'
          have h1 : sq ≤ B := by rw [e6]; exact hle
          have h2 : b' = B - sq - s := by rw [e6]; exact hbe
          have h3 : s ≤ pr := by omega
          have h4 : b' ≤ B - sq - lcv := by omega
          have h5 : B - (sq + pr) ≤ b' := by omega
          have HV : Hid _ := hv
          have HCH : Hid _ := hch
          have HX4 : Hid _ := hcx4
          have HY4 : Hid _ := hcy4
          clear hbe hs1 hle hlc hsz e5 e6 hv hch hcx4 hcy4 h2
          by_cases hmn : m < n
          · rw [Nat.min_eq_right (by omega)] at e4
            go_wp2_with (first
              | (go_at_call 8; refine HC8.mono ?_; rintro e w5 ⟨rfl, hb5⟩; have hcb5 : w5.cell? ⟨wc.heap.size, 0, none⟩ = some (.int .i64 b') := (hb5.cell (p := ⟨wc.heap.size, 0, none⟩) hcl4).trans hcb4)
              | (go_at_call 9; refine (script_any g L.length n m b1 c1 b2 c2 _ _ X Y L _ rfl (by omega) (hr.below hb5 hr.lt) (by omega) (by omega) (fun _ => rfl) (fun _ => rfl) (fun t ht => (hb5.cell (World.block_lt_of_cell? _ _ (HX4.out t ht))).trans (HX4.out t ht)) (fun t ht => (hb5.cell (World.block_lt_of_cell? _ _ (HY4.out t ht))).trans (HY4.out t ht)) HV.out).mono ?_; rintro e w6 ⟨rfl, hb6⟩)
              | (go_at_call 10; refine (changes_any g L.length L _ rfl (by omega) (hr.below (hb5.trans (hb6.mono hb5.size)) hr.lt)).mono ?_; rw [HCH.out]; rintro e w7 ⟨rfl, hw7⟩; subst hw7))
            go_ret
            exact ⟨rfl, hbz4.trans ((hb5.trans (hb6.mono hb5.size)).mono hbz4.size)⟩
          · rw [Nat.min_eq_left (by omega)] at e4
            go_wp2_with (first
              | (go_at_call 8; refine HC8.mono ?_; rintro e w5 ⟨rfl, hb5⟩; have hcb5 : w5.cell? ⟨wc.heap.size, 0, none⟩ = some (.int .i64 b') := (hb5.cell (p := ⟨wc.heap.size, 0, none⟩) hcl4).trans hcb4)
              | (go_at_call 9; refine (script_any g L.length n m b1 c1 b2 c2 _ _ X Y L _ rfl (by omega) (hr.below hb5 hr.lt) (by omega) (by omega) (fun _ => rfl) (fun _ => rfl) (fun t ht => (hb5.cell (World.block_lt_of_cell? _ _ (HX4.out t ht))).trans (HX4.out t ht)) (fun t ht => (hb5.cell (World.block_lt_of_cell? _ _ (HY4.out t ht))).trans (HY4.out t ht)) HV.out).mono ?_; rintro e w6 ⟨rfl, hb6⟩)
              | (go_at_call 10; refine (changes_any g L.length L _ rfl (by omega) (hr.below (hb5.trans (hb6.mono hb5.size)) hr.lt)).mono ?_; rw [HCH.out]; rintro e w7 ⟨rfl, hw7⟩; subst hw7))
            go_ret
            exact ⟨rfl, hbz4.trans ((hb5.trans (hb6.mono hb5.size)).mono hbz4.size)⟩
end Go.Proofs.Qxb6601753a
