import Derived.Test.Qxb6601753aOut
import Derived.Deep.DeepCutAuto
import Derived.Deep.CutRange
import Derived.Deep.LoopGhost
namespace Go.Proofs.Qxb6601753a
open Go.ChangeShapes Go.WideShapes Go.ChangeAt Go.RowKit
open Plain
set_option linter.unusedVariables false

/-- What the trace-back asks of memory: the trace's slice, and each round's row. -/
structure Trace (w : World) (tb D : Nat) (gs cs : Nat → Nat) (S : Nat → Int → Int) : Prop where
  row : ∀ t, t ≤ D → w.cell? ⟨tb, t, none⟩ = some (.slice (some ⟨gs t, 0, none⟩) (2 * t + 1) (cs t))
  at_ : ∀ t, t ≤ D → ∀ k : Int, -(t : Int) ≤ k → k ≤ t → w.cell? ⟨gs t, ((t : Int) + k).toNat, none⟩ = some (.int .i64 (S t k))

theorem wrap_neg (d : Nat) (h : d ≤ 1000000) : IntKind.i64.wrap (-(d : Int)) = -(d : Int) := by
  exact IntWalk.i64_in _ (by omega)

set_option maxRecDepth 100000 in
set_option maxHeartbeats 4000000 in
theorem editsOf_any (E : Nat → Nat → Bool) (N n m D tb tcap : Nat) (gs cs : Nat → Nat) (S : Nat → Int → Int) (w : World) (hn : n ≤ 65536) (hm : m ≤ 65536) (hE : ∀ i j, E i j = true → i < n ∧ j < m)
    (h0 : 0 < n) (hD : D ≤ n + m) (hT : Trace w tb D gs cs S) (hS : ∀ t, 1 ≤ t → t ≤ D → ∀ k, On (t - 1) k → S t k = G E N t k) (hon : On D ((n : Int) - m)) (hend : G E N (D + 1) ((n : Int) - m) = n) :
    Calls Try.prog 17 #[.slice (some ⟨tb, 0, none⟩) (D + 1) tcap, .int .i64 n, .int .i64 m] w fun e w' => ∃ (g cap : Nat) (L : List (Int × Int × Int)), e = .returned (.slice (some ⟨g, 0, none⟩) L.length cap) ∧
      RowE w' g cap 39 L.length (fun t => L.getD t (0, 0, 0)) ∧ Below w.heap.size w w' ∧ w.heap.size ≤ g ∧ Valid E n m 0 0 L ∧ chg L = D := by
  obtain ⟨i0, hi, hz0, hz1, hz2⟩ := info_parts info39
  go_enter Try.func17, Try.ntmps17
  go_wp2
  go_loopw [7, 8, 9, 10] (fun v iv jv dv wr => ∃ (d i j : Nat) (L : List (Int × Int × Int)), iv = .int .i64 i ∧ jv = .int .i64 j ∧ dv = .int .i64 d ∧ d ≤ D ∧ On d ((i : Int) - j) ∧ G E N (d + 1) ((i : Int) - j) = i ∧
      wr.ownsRow w.heap.size 39 3 v L.length (L.flatMap ed) ∧ Below w.heap.size w wr ∧ Valid E n m i j L.reverse ∧ chg L + d = D) (fun _ _ _ dv _ => (intOf dv).toNat)
  case atStart => exact ⟨D, n, m, [], rfl, rfl, by go_num, Nat.le_refl _, hon, hend, World.ownsRow_nil _ _ _ _, Below.refl _ _, ⟨rfl, rfl⟩, by simp [chg]⟩
  case round =>
    obtain ⟨d, i, j, L, rfl, rfl, rfl, hd, hon1, hG, hown, hbel, hval, hchg⟩ := hrel
    have hb := valid_length hE _ _ _ hval
    obtain ⟨hin, hjm, hlen⟩ := hb
    by_cases hpos : 0 < d
    · have hrow := (hbel.cell (p := ⟨tb, d, none⟩) (World.block_lt_of_cell? _ _ (hT.row d hd))).trans (hT.row d hd)
      have hat : ∀ k : Int, -(d : Int) ≤ k → k ≤ d → wr.cell? ⟨gs d, ((d : Int) + k).toNat, none⟩ = some (.int .i64 (S d k)) := fun k a b =>
        (hbel.cell (p := ⟨gs d, ((d : Int) + k).toNat, none⟩) (World.block_lt_of_cell? _ _ (hT.at_ d hd k a b))).trans (hT.at_ d hd k a b)
      obtain ⟨k, hk⟩ : ∃ k : Int, (i : Int) - j = k := ⟨_, rfl⟩
      rw [hk] at hon1 hG
      have hon2 := hon1
      unfold On at hon2
      obtain ⟨hk1, hk2, hk3⟩ := hon2
      have HAT : Hid _ := hat
      clear hat hk3
      have hdb1 : (d : Int) ≤ 131072 := by omega
      have hkb1 : k ≤ 131072 := by omega
      have hkb2 : -131072 ≤ k := by omega
      have hneg : IntKind.i64.wrap (-(d : Int)) = -(d : Int) := wrap_neg d (by omega)
      go_upto_region 9 with fail
      go_cut [59] (fun c wx => c = .bool (up (G E N d) d k) ∧ ∃ q, wx = wr.drewN q)
      case first =>
        by_cases h1 : k = -(d : Int)
        · have hb1 : (k == -(d : Int)) = true := by simp [h1]
          have hu : up (G E N d) d k = true := up_low h1
          have HU : Hid _ := hu
          clear hu h1
          go_quiet (fail)
          go_wp2_with fail
          go_meet
          case rel => exact ⟨by rw [HU.out], nq, rfl⟩
        · have hb1 : (k == -(d : Int)) = false := by simp [h1]
          by_cases h2 : k = (d : Int)
          · have hb2 : (k != (d : Int)) = false := by simp [h2]
            have hu : up (G E N d) d k = false := up_high h2 hpos
            have HU : Hid _ := hu
            clear hu h2 h1
            go_quiet (fail)
            go_wp2_with fail
            go_meet
            case rel => exact ⟨by rw [HU.out], nq, rfl⟩
          · have hb2 : (k != (d : Int)) = true := by simp [h2]
            have hu : up (G E N d) d k = decide (S d (k - 1) < S d (k + 1)) := by
              rw [up_mid h1 h2, hS d hpos hd (k - 1) (by unfold On at *; omega), hS d hpos hd (k + 1) (by unfold On at *; omega)]
            have HU : Hid _ := hu
            clear hu
            obtain ⟨c, hc⟩ : ∃ c : Nat, (d : Int) + k = c := ⟨((d : Int) + k).toNat, by omega⟩
            have ha1 : wr.cell? ⟨gs d, c - 1, none⟩ = some (.int .i64 (S d (k - 1))) := by
              have := HAT.out (k - 1) (by omega) (by omega)
              rwa [show ((d : Int) + (k - 1)).toNat = c - 1 by omega] at this
            have ha2 : wr.cell? ⟨gs d, c + 1, none⟩ = some (.int .i64 (S d (k + 1))) := by
              have := HAT.out (k + 1) (by omega) (by omega)
              rwa [show ((d : Int) + (k + 1)).toNat = c + 1 by omega] at this
            have hx1 : 1 ≤ c := by omega
            have hx2 : c + 1 < 2 * d + 1 := by omega
            clear h1 h2
            go_quiet (fail)
            go_wp2_with fail
            go_meet
            case rel => exact ⟨by rw [HU.out], nq, rfl⟩
      case rest =>
        obtain ⟨rfl, q, rfl⟩ := hcut
        have hown' : (wr.drewN q).ownsRow w.heap.size 39 3 u7 L.length (L.flatMap ed) := hown
        have hbel' : Below w.heap.size w (wr.drewN q) := ⟨hbel.os, hbel.tape, hbel.output, hbel.size, hbel.block⟩
        cases hu : up (G E N d) d k
        · obtain ⟨p, jn, hp, hjn, hon3, hpi, hrun⟩ := back_left hpos hon1 hu
          rw [hG] at hpi hrun
          have ha3 : wr.cell? ⟨gs d, ((d : Int) + (k - 1)).toNat, none⟩ = some (.int .i64 p) := by
            rw [HAT.out (k - 1) (by unfold On at hon3; omega) (by unfold On at hon3; omega), hS d hpos hd _ hon3, hp]
          have HP : Hid _ := hp
          have HON3 : Hid _ := hon3
          have HRUN : Hid _ := hrun
          have HK : Hid _ := hk
          have HG : Hid _ := hG
          have HVAL : Hid _ := hval
          have HCHG : Hid _ := hchg
          unfold On at hon3
          obtain ⟨hx1, hx2, _⟩ := hon3
          clear hp hrun hk hG hval hchg hu hown hbel
          go_wp2_with fail
          go_loopw [7, 8, 9] (fun v iv jv wx => ∃ (i' j' : Nat) (L' : List (Int × Int × Int)), iv = .int .i64 i' ∧ jv = .int .i64 j' ∧ (i' : Int) - j' = k ∧ p + 1 ≤ i' ∧ i' ≤ i ∧
              wx.ownsRow w.heap.size 39 3 v L'.length (L'.flatMap ed) ∧ Below w.heap.size w wx ∧ Valid E n m i' j' L'.reverse ∧ chg L' = chg L) (fun _ iv _ _ => (intOf iv).toNat)
          case atStart => exact ⟨i, j, L, rfl, rfl, HK.out, by omega, Nat.le_refl _, hown', hbel', HVAL.out, rfl⟩
          case round =>
            obtain ⟨i', j', L', rfl, rfl, hk', hpi', hii', hownx, hbelx, hvalx, hchgx⟩ := hrel
            obtain ⟨hin', hjm', hlen'⟩ := valid_length hE _ _ _ hvalx
            simp only [List.length_reverse] at hlen'
            have HVALX : Hid _ := hvalx
            have HCHGX : Hid _ := hchgx
            have HKX : Hid _ := hk'
            have hj1 : jn ≤ j' := by omega
            have hpj : ((k - 1) == (k + 1)) = false := by simp; omega
            clear hvalx hchgx hk'
            by_cases hlt : p + 1 < i'
            · have hj2 : jn < j' := by have := HKX.out; omega
              obtain ⟨a, rfl⟩ : ∃ a, i' = a + 1 := ⟨i' - 1, by omega⟩
              obtain ⟨b, rfl⟩ : ∃ b, j' = b + 1 := ⟨j' - 1, by omega⟩
              have HE : Hid (E a b = true) := by
                have := HRUN.out a (by omega) (by omega)
                have hkx := HKX.out
                rwa [show ((a : Int) - k).toNat = b by omega] at this
              go_wp2_with (at_builtin; refine wpList_append_own _ rfl _ _ 35 rfl w.heap.size 39 i0 (.agg #[.int .i64 0, .int .i64 0, .int .i64 0]) 3 24 Try.underlying35 hi hz0 hz1 hz2 rfl (by decide) _ _ _ rfl (hownx.alloc _) ⟨wr.heap.size, 0, none⟩ 1 1 (ed (0, (a : Int), (b : Int))) rfl rfl (ed_new wr (0, (a : Int), (b : Int))) (ed_one _) (by unfold maxLen; omega) (by omega) (by have := hbelx.size; simp; omega) ?_; intro v1 w1 hown1 hgrow1 _)
              go_roundw
              case rel =>
                refine ⟨a, b, L' ++ [(0, (a : Int), (b : Int))], by go_num, by go_num, ?_, by omega, by omega, ?_, ?_, ?_, ?_⟩
                · have := HKX.out; omega
                · rw [List.flatMap_append, List.length_append]; simpa using hown1
                · exact (hbelx.alloc hbelx.size _).grown hgrow1 (by simp; have := hbelx.size; omega) (by intro z hz; have := (hownx.lt z hz).1; exact this)
                · rw [List.reverse_append]; exact .inl ⟨rfl, HE.out, HVALX.out⟩
                · rw [chg_append, HCHGX.out]; simp [chg]
              case measure => simp [intOf]
            · obtain rfl : i' = p + 1 := by omega
              obtain rfl : jn = j' := by have := HKX.out; omega
              go_wp2_with (at_builtin; refine wpList_append_own _ rfl _ _ 35 rfl w.heap.size 39 i0 (.agg #[.int .i64 0, .int .i64 0, .int .i64 0]) 3 24 Try.underlying35 hi hz0 hz1 hz2 rfl (by decide) _ _ _ rfl (hownx.alloc _) ⟨wr.heap.size, 0, none⟩ 1 1 (ed (1, (p : Int), 0)) rfl rfl (ed_new wr (1, (p : Int), 0)) (ed_one _) (by unfold maxLen; omega) (by omega) (by have := hbelx.size; simp; omega) ?_; intro v1 w1 hown1 hgrow1 _)
              go_roundw
              case rel =>
                have e1 : (p : Int) - (jn : Int) = k - 1 := by omega
                refine ⟨d - 1, p, jn, L' ++ [(1, (p : Int), 0)], rfl, rfl, by congr 1; omega, by omega, ?_, ?_, ?_, ?_, ?_, ?_⟩
                · rw [e1]; exact HON3.out
                · rw [e1, show d - 1 + 1 = d by omega]; exact HP.out
                · rw [List.flatMap_append, List.length_append]; simpa using hown1
                · exact (hbelx.alloc hbelx.size _).grown hgrow1 (by simp; have := hbelx.size; omega) (by intro z hz; have := (hownx.lt z hz).1; exact this)
                · rw [List.reverse_append]; exact .inr (.inl ⟨rfl, by omega, HVALX.out⟩)
                · have hc1 := HCHGX.out
                  have hc2 := HCHG.out
                  rw [chg_append]; simp [chg]; omega
              case measure => simp [intOf]; omega
        · obtain ⟨p, jn, hp, hjn, hon3, hpi, hrun⟩ := back_up hpos hon1 hu
          rw [hG] at hpi hrun
          have ha3 : wr.cell? ⟨gs d, ((d : Int) + (k + 1)).toNat, none⟩ = some (.int .i64 p) := by
            rw [HAT.out (k + 1) (by unfold On at hon3; omega) (by unfold On at hon3; omega), hS d hpos hd _ hon3, hp]
          have HP : Hid _ := hp
          have HON3 : Hid _ := hon3
          have HRUN : Hid _ := hrun
          have HK : Hid _ := hk
          have HG : Hid _ := hG
          have HVAL : Hid _ := hval
          have HCHG : Hid _ := hchg
          unfold On at hon3
          obtain ⟨hx1, hx2, _⟩ := hon3
          clear hp hrun hk hG hval hchg hu hown hbel
          go_wp2_with fail
          go_loopw [7, 8, 9] (fun v iv jv wx => ∃ (i' j' : Nat) (L' : List (Int × Int × Int)), iv = .int .i64 i' ∧ jv = .int .i64 j' ∧ (i' : Int) - j' = k ∧ p ≤ i' ∧ i' ≤ i ∧
              wx.ownsRow w.heap.size 39 3 v L'.length (L'.flatMap ed) ∧ Below w.heap.size w wx ∧ Valid E n m i' j' L'.reverse ∧ chg L' = chg L) (fun _ iv _ _ => (intOf iv).toNat)
          case atStart => exact ⟨i, j, L, rfl, rfl, HK.out, by omega, Nat.le_refl _, hown', hbel', HVAL.out, rfl⟩
          case round =>
            obtain ⟨i', j', L', rfl, rfl, hk', hpi', hii', hownx, hbelx, hvalx, hchgx⟩ := hrel
            obtain ⟨hin', hjm', hlen'⟩ := valid_length hE _ _ _ hvalx
            simp only [List.length_reverse] at hlen'
            have HVALX : Hid _ := hvalx
            have HCHGX : Hid _ := hchgx
            have HKX : Hid _ := hk'
            have hj1 : jn < j' := by omega
            clear hvalx hchgx hk'
            by_cases hlt : p < i'
            · obtain ⟨a, rfl⟩ : ∃ a, i' = a + 1 := ⟨i' - 1, by omega⟩
              obtain ⟨b, rfl⟩ : ∃ b, j' = b + 1 := ⟨j' - 1, by omega⟩
              have HE : Hid (E a b = true) := by
                have := HRUN.out a (by omega) (by omega)
                have hkx := HKX.out
                rwa [show ((a : Int) - k).toNat = b by omega] at this
              go_wp2_with (at_builtin; refine wpList_append_own _ rfl _ _ 35 rfl w.heap.size 39 i0 (.agg #[.int .i64 0, .int .i64 0, .int .i64 0]) 3 24 Try.underlying35 hi hz0 hz1 hz2 rfl (by decide) _ _ _ rfl (hownx.alloc _) ⟨wr.heap.size, 0, none⟩ 1 1 (ed (0, (a : Int), (b : Int))) rfl rfl (ed_new wr (0, (a : Int), (b : Int))) (ed_one _) (by unfold maxLen; omega) (by omega) (by have := hbelx.size; simp; omega) ?_; intro v1 w1 hown1 hgrow1 _)
              go_roundw
              case rel =>
                refine ⟨a, b, L' ++ [(0, (a : Int), (b : Int))], by go_num, by go_num, ?_, by omega, by omega, ?_, ?_, ?_, ?_⟩
                · have := HKX.out; omega
                · rw [List.flatMap_append, List.length_append]; simpa using hown1
                · exact (hbelx.alloc hbelx.size _).grown hgrow1 (by simp; have := hbelx.size; omega) (by intro z hz; have := (hownx.lt z hz).1; exact this)
                · rw [List.reverse_append]; exact .inl ⟨rfl, HE.out, HVALX.out⟩
                · rw [chg_append, HCHGX.out]; simp [chg]
              case measure => simp [intOf]
            · obtain rfl : p = i' := by omega
              obtain rfl : j' = jn + 1 := by have := HKX.out; omega
              go_wp2_with (at_builtin; refine wpList_append_own _ rfl _ _ 35 rfl w.heap.size 39 i0 (.agg #[.int .i64 0, .int .i64 0, .int .i64 0]) 3 24 Try.underlying35 hi hz0 hz1 hz2 rfl (by decide) _ _ _ rfl (hownx.alloc _) ⟨wr.heap.size, 0, none⟩ 1 1 (ed (2, 0, (jn : Int))) rfl rfl (ed_new wr (2, 0, (jn : Int))) (ed_one _) (by unfold maxLen; omega) (by omega) (by have := hbelx.size; simp; omega) ?_; intro v1 w1 hown1 hgrow1 _)
              go_roundw
              case rel =>
                have e1 : (p : Int) - (jn : Int) = k + 1 := by omega
                refine ⟨d - 1, p, jn, L' ++ [(2, 0, (jn : Int))], rfl, rfl, by congr 1; omega, by omega, ?_, ?_, ?_, ?_, ?_, ?_⟩
                · rw [e1]; exact HON3.out
                · rw [e1, show d - 1 + 1 = d by omega]; exact HP.out
                · rw [List.flatMap_append, List.length_append]; simpa using hown1
                · exact (hbelx.alloc hbelx.size _).grown hgrow1 (by simp; have := hbelx.size; omega) (by intro z hz; have := (hownx.lt z hz).1; exact this)
                · rw [List.reverse_append]; exact .inr (.inr ⟨rfl, by omega, HVALX.out⟩)
                · have hc1 := HCHGX.out
                  have hc2 := HCHG.out
                  rw [chg_append]; simp [chg]; omega
              case measure => simp [intOf]; omega
    · obtain rfl : d = 0 := by omega
      obtain ⟨rfl, hrun⟩ := run_zero hon1 hG
      have HRUN : Hid _ := hrun
      have HVAL : Hid _ := hval
      have HCHG : Hid _ := hchg
      clear hrun hval hchg hG hon1
      go_wp2_with fail
      go_loopw [7, 8, 9] (fun v iv jv wx => ∃ (i' : Nat) (L' : List (Int × Int × Int)), iv = .int .i64 i' ∧ jv = .int .i64 i' ∧ i' ≤ i ∧
          wx.ownsRow w.heap.size 39 3 v L'.length (L'.flatMap ed) ∧ Below w.heap.size w wx ∧ Valid E n m i' i' L'.reverse ∧ chg L' = D) (fun _ iv _ _ => (intOf iv).toNat)
      case atStart => exact ⟨i, L, rfl, rfl, Nat.le_refl _, hown, hbel, HVAL.out, HCHG.out⟩
      case round =>
        obtain ⟨i', L', rfl, rfl, hii', hownx, hbelx, hvalx, hchgx⟩ := hrel
        obtain ⟨hin', hjm', hlen'⟩ := valid_length hE _ _ _ hvalx
        simp only [List.length_reverse] at hlen'
        have HVALX : Hid _ := hvalx
        have HCHGX : Hid _ := hchgx
        clear hvalx hchgx
        by_cases hlt : 0 < i'
        · obtain ⟨a, rfl⟩ : ∃ a, i' = a + 1 := ⟨i' - 1, by omega⟩
          have HE : Hid (E a a = true) := HRUN.out a (by omega)
          go_wp2_with (at_builtin; refine wpList_append_own _ rfl _ _ 35 rfl w.heap.size 39 i0 (.agg #[.int .i64 0, .int .i64 0, .int .i64 0]) 3 24 Try.underlying35 hi hz0 hz1 hz2 rfl (by decide) _ _ _ rfl (hownx.alloc _) ⟨wr.heap.size, 0, none⟩ 1 1 (ed (0, (a : Int), (a : Int))) rfl rfl (ed_new wr (0, (a : Int), (a : Int))) (ed_one _) (by unfold maxLen; omega) (by omega) (by have := hbelx.size; simp; omega) ?_; intro v1 w1 hown1 hgrow1 _)
          go_roundw
          case rel =>
            (repeat apply Exists.intro)
            refine ⟨?_, rfl⟩
            refine ⟨a, L' ++ [(0, (a : Int), (a : Int))], by go_num, by go_num, by omega, ?_, ?_, ?_, ?_⟩
            · rw [List.flatMap_append, List.length_append]; simpa using hown1
            · exact (hbelx.alloc hbelx.size _).grown hgrow1 (by simp; have := hbelx.size; omega) (by intro z hz; have := (hownx.lt z hz).1; exact this)
            · rw [List.reverse_append]; exact .inl ⟨rfl, HE.out, HVALX.out⟩
            · rw [chg_append, HCHGX.out]; simp [chg]
          case measure => simp [intOf]
        · obtain rfl : i' = 0 := by omega
          have hne : L' ≠ [] := by
            intro h
            have := HVALX.out
            rw [h] at this
            simp only [List.reverse_nil, Valid] at this
            omega
          have hl0 : 0 < L'.length := List.length_pos_iff.2 hne
          obtain ⟨g, cap, rfl, hgb⟩ : ∃ g cap, u7 = .slice (some ⟨g, 0, none⟩) L'.length cap ∧ w.heap.size ≤ g := by
            rcases hownx.2 with ⟨_, h2⟩ | ⟨g, cap, cur, h1, h2, _⟩
            · omega
            · exact ⟨g, cap, h1, h2⟩
          have hre := RowE.of_owns hownx
          go_wp2_with (go_at_call 18; refine (reverse_any _ _ _ _ _ (by omega) hre).mono ?_; rintro e w2 ⟨rfl, hr2, hg2, hs2⟩)
          go_ret
          refine ⟨g, cap, L'.reverse, ?_, ?_, ?_, hgb, HVALX.out, by rw [chg_reverse]; exact HCHGX.out⟩
          · rw [List.length_reverse]; rfl
          · rw [List.length_reverse]
            refine hr2.congr ?_
            intro t ht
            rw [List.getD_eq_getElem?_getD, List.getD_eq_getElem?_getD, List.getElem?_reverse ht]
          · exact hbelx.grown hg2 hbelx.size (by intro z hz; cases hz; exact hgb)
end Go.Proofs.Qxb6601753a
