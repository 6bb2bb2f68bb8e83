import Derived.Test.Qxb6601455aPivot
import Derived.Test.Qxb6601455aShelf
import Derived.Lib.ItoaNum
import Derived.Laws.BitsAllLaws
namespace Go.Proofs.Qxb6601455a
open Go.ChangeShapes Go.WideShapes Go.ChangeAt Go.RowKit
open Go.Sort (swp ltInt PermIn SortedIn)
set_option linter.unusedVariables false

theorem nextPow_any (l : Nat) (w : World) (h1 : 0 < l) (h2 : l ≤ 1000000) :
    Calls Try.prog 31 #[.int .i64 l] w fun e w' => (∃ m : Nat, e = .returned (.int .u64 m) ∧ 1 ≤ m ∧ m ≤ 2 * l) ∧ w' = w := by
  go_enter Try.func31, Try.ntmps31
  go_wp2_with (go_at_call 18; refine (Try.bits_Len _ _ (by omega) (by omega)).mono ?_; rintro e w' ⟨rfl, hw⟩; obtain rfl := hw.symm)
  go_ret
  obtain ⟨q1, q2, q3⟩ : 1 ≤ Lib.bitLen l ∧ 2 ^ (Lib.bitLen l - 1) ≤ l ∧ l < 2 ^ Lib.bitLen l := Lib.bitLenAux_bounds 64 l (by omega) (by omega)
  have q4 : Lib.bitLen l ≤ 20 := Lib.bitLen_le l 20 (by omega) (by omega)
  have q5 : 2 ^ Lib.bitLen l = 2 * 2 ^ (Lib.bitLen l - 1) := by
    obtain ⟨n, hn⟩ : ∃ n, Lib.bitLen l = n + 1 := ⟨Lib.bitLen l - 1, by omega⟩
    rw [hn, Nat.pow_succ]; simp; omega
  have q6 : min (Lib.bitLen l) 64 = Lib.bitLen l := by omega
  refine ⟨⟨2 ^ Lib.bitLen l, ?_, Nat.one_le_two_pow, by omega⟩, rfl⟩
  show Ending.returned (.int .u64 _) = _
  rw [q6]
  congr 2
  have q7 : ((2 : Int) ^ Lib.bitLen l) = ((2 ^ Lib.bitLen l : Nat) : Int) := by push_cast; rfl
  rw [q7]
  have q8 : 2 ^ Lib.bitLen l ≤ 2000000 := by omega
  exact IntWalk.u64_in _ ⟨by omega, by omega⟩

/-- The state of the drawing of numbers. -/
def RandAt (w : World) (s : Nat) : Prop := ∃ (cur : Array Value) (z : Int), w.heap[s]? = some (.cells cur 58 (0, 0)) ∧ cur[0]? = some (.int .u64 z)
theorem RandAt.cell {w : World} {s : Nat} (h : RandAt w s) : ∃ z, w.cell? ⟨s, 0, none⟩ = some (.int .u64 z) := by
  obtain ⟨cur, z, e, hc⟩ := h
  exact ⟨z, by rw [cell_of_row w s _ cur 58 (0, 0) e]; exact hc⟩
theorem RandAt.frozen {w : World} {s : Nat} (h : RandAt w s) (t : Nat) : w.frozen? ⟨s, t, none⟩ = false := by
  obtain ⟨cur, z, e, hc⟩ := h
  exact frozen_of_row w s t cur 58 e
theorem RandAt.put {w : World} {s : Nat} (h : RandAt w s) (z' : Int) : RandAt (w.setCell ⟨s, 0, none⟩ (.int .u64 z')) s := by
  obtain ⟨cur, z, e, hc⟩ := h
  refine ⟨_, z', heap_setCell_same w s _ cur 58 _ e, ?_⟩
  rw [Array.getElem?_setIfInBounds, if_pos rfl, if_pos (Array.getElem?_eq_some_iff.1 hc).1]
theorem RandAt.drew {w : World} {s : Nat} (h : RandAt w s) : RandAt w.drew s := h
theorem RandAt.keep {w w' : World} {g s : Nat} (h : RandAt w s) (hk : w.grownBy w' (some g)) (hne : s ≠ g) : RandAt w' s := by
  obtain ⟨cur, z, e, hc⟩ := h
  exact ⟨cur, z, (hk.block s (Array.getElem?_eq_some_iff.1 e).1 (by simpa using hne)).trans e, hc⟩

theorem next_any (s : Nat) (w : World) (hs : RandAt w s) :
    Calls Try.prog 32 #[.pointer (some ⟨s, 0, none⟩)] w fun e w' => (∃ z : Int, e = .returned (.int .u64 z)) ∧ RandAt w' s ∧ w.grownBy w' (some s) := by
  obtain ⟨z, hz⟩ := hs.cell
  have hf := hs.frozen
  go_enter Try.func32, Try.ntmps32
  go_upto_region 1 with fail
  go_cut [] (fun wx => RandAt wx s ∧ w.grownBy wx (some s))
  case first =>
    go_region
    all_goals go_wp2_with fail
    go_meet
    case rel => exact ⟨(hs.put _).drew, keep_drew (keep_set (keep_refl _ _) _ _)⟩
  case rest =>
    obtain ⟨h1, k1⟩ := hcut
    clear hz hf
    obtain ⟨z1, hz1⟩ := h1.cell
    have hf1 := h1.frozen
    go_upto_region 2 with fail
    go_cut [] (fun wx => RandAt wx s ∧ w.grownBy wx (some s))
    case first =>
      go_region
      all_goals go_wp2_with fail
      go_meet
      case rel => exact ⟨(h1.put _).drew, keep_drew (keep_set k1 _ _)⟩
    case rest =>
      obtain ⟨h2, k2⟩ := hcut
      clear hz1 hf1 h1 k1
      obtain ⟨z1, hz1⟩ := h2.cell
      have hf1 := h2.frozen
      go_upto_region 3 with fail
      go_cut [] (fun wx => RandAt wx s ∧ w.grownBy wx (some s))
      case first =>
        go_region
        all_goals go_wp2_with fail
        go_meet
        case rel => exact ⟨(h2.put _).drew, keep_drew (keep_set k2 _ _)⟩
      case rest =>
        obtain ⟨h3, k3⟩ := hcut
        clear hz1 hf1 h2 k2
        obtain ⟨z1, hz1⟩ := h3.cell
        go_wp2_with fail
        go_ret
        exact ⟨⟨z1, rfl⟩, h3, k3⟩

theorem and_small (z : Int) (m : Nat) (h : m ≤ 2000000) : ∃ r : Nat, bits .and .u64 z ((m - 1 : Nat) : Int) = r ∧ r ≤ m - 1 := by
  refine ⟨(BitVec.ofInt 64 z).toNat &&& (m - 1), ?_, Nat.and_le_right⟩
  have hx : (BitVec.ofInt 64 z).toNat &&& (m - 1) ≤ m - 1 := Nat.and_le_right
  show IntKind.u64.wrap ((BitVec.ofInt 64 z &&& BitVec.ofInt 64 ((m - 1 : Nat) : Int)).toNat : Int) = _
  rw [BitVec.toNat_and, ofInt_u64 (m - 1) (by omega), IntKind.wrap_u64]
  omega

set_option maxRecDepth 100000 in
theorem break_any (g cap a b : Nat) (d : Array Int) (w : World) (hr : RowA w g d) (hab : a + 8 ≤ b) (hb : b ≤ d.size) (hsz : d.size ≤ 1000000) :
    Calls Try.prog 21 #[.slice (some ⟨g, 0, none⟩) d.size cap, .int .i64 a, .int .i64 b] w fun e w' => e = .returned (.tuple #[]) ∧ w.grownBy w' (some g) ∧ ∃ d', RowA w' g d' ∧ PermIn a b d d' := by
  obtain ⟨l, hl⟩ : ∃ l : Nat, (b : Int) - a = l := ⟨b - a, by omega⟩
  obtain ⟨q, hq⟩ : ∃ q : Nat, (l : Int) / 4 = q := ⟨l / 4, by omega⟩
  obtain ⟨j, hj⟩ : ∃ j : Nat, (a : Int) + q * 2 = j := ⟨a + q * 2, by omega⟩
  obtain ⟨j0, hj0⟩ : ∃ j0 : Nat, (j : Int) - 1 = j0 := ⟨j - 1, by omega⟩
  obtain ⟨j1, hj1⟩ : ∃ j1 : Nat, (j : Int) + 1 = j1 := ⟨j + 1, by omega⟩
  have hne : w.heap.size ≠ g := by have := hr.lt; omega
  go_enter Try.func21, Try.ntmps21
  go_wp2_with (go_at_call 31; refine (nextPow_any l _ (by omega) (by omega)).mono ?_; rintro e w' ⟨⟨m, rfl, hm1, hm2⟩, hw⟩; obtain rfl := hw.symm)
  go_loopw [9] (fun vi wr => ∃ (i : Nat) (dk : Array Int), vi = .int .i64 i ∧ j0 ≤ i ∧ i ≤ j1 + 1 ∧ PermIn a b d dk ∧ RowA wr g dk ∧ RandAt wr w.heap.size ∧ w.grownBy wr (some g)) (fun vi _ => j1 + 1 - (intOf vi).toNat)
  case atStart => exact ⟨j0, d, rfl, Nat.le_refl _, by omega, Sort.permIn_refl _ _ _, hr.alloc _, ⟨_, _, heap_alloc_new _ _, rfl⟩, keep_below (keep_refl _ _) (Below.alloc (Below.refl _ _) (Nat.le_refl _) _)⟩
  case round =>
    obtain ⟨i, dk, rfl, hi1, hi2, hpk, hrk, hsk, hgk⟩ := hrel
    clear hr
    have hszk : dk.size = d.size := hpk.1
    by_cases hle : i ≤ j1
    · go_upto_region 7 with fail
      go_cut [10] (fun vr wx => ∃ r : Nat, vr = .int .i64 r ∧ r < m ∧ RowA wx g dk ∧ RandAt wx w.heap.size ∧ w.grownBy wx (some g))
      case first =>
        go_wp2_with (go_at_call 32; refine (next_any w.heap.size _ hsk).mono ?_; rintro e w1 ⟨⟨z, rfl⟩, hs1, k1⟩)
        go_meet
        case rel =>
          obtain ⟨r, hr1, hr2⟩ := and_small z m (by omega)
          rw [show ((m : Int) - 1) = ((m - 1 : Nat) : Int) by omega, hr1]
          refine ⟨r, ?_, by omega, hrk.keep k1 hne, hs1, ?_⟩
          · congr 1; simp [wrap64]; omega
          · exact ⟨k1.os.trans hgk.os, k1.tape.trans hgk.tape, k1.output.trans hgk.output, Nat.le_trans hgk.size k1.size, fun k hk hn => (k1.block k (Nat.lt_of_lt_of_le hk hgk.size) (by simp; omega)).trans (hgk.block k hk hn)⟩
      case rest =>
        obtain ⟨r, rfl, hr1, hrk1, hsk1, hgk1⟩ := hcut
        clear hrk hsk hgk
        go_upto_if 43 with fail
        go_cut [10] (fun vr wx => ∃ r : Nat, vr = .int .i64 r ∧ r < l ∧ RowA wx g dk ∧ RandAt wx w.heap.size ∧ w.grownBy wx (some g))
        case first =>
          by_cases hrl : l ≤ r
          · obtain ⟨r2, hr2⟩ : ∃ r2 : Nat, (r : Int) - l = r2 := ⟨r - l, by omega⟩
            go_wp2_with fail
            go_meet
            case rel => exact ⟨r2, rfl, by omega, hrk1, hsk1, hgk1⟩
          · go_wp2_with fail
            go_meet
            case rel => exact ⟨r, rfl, by omega, hrk1, hsk1, hgk1⟩
        case rest =>
          obtain ⟨r2, rfl, hr2, hrk2, hsk2, hgk2⟩ := hcut
          clear hrk1 hsk1 hgk1
          obtain ⟨p, hp⟩ : ∃ p : Nat, (a : Int) + r2 = p := ⟨a + r2, by omega⟩
          have hfz := hrk2.frozen
          obtain ⟨G, HG, hc⟩ := hrk2.named
          rw [hszk] at hc
          by_cases hip : p = i
          · obtain rfl := hip
            have c1 := hc p (by omega)
            go_upto_region 10 with fail
            go_region
            all_goals go_wp2_with fail
            go_roundw
            case rel =>
              refine ⟨p + 1, swp dk p p, by go_num, by omega, by omega, ?_, ?_, ?_, ?_⟩
              · exact Sort.permIn_trans _ _ _ _ _ hpk (Sort.swp_permIn _ _ _ _ _ (by omega) (by omega) (by omega) (by omega) (by omega))
              · have := (hrk2.swap p p).drew
                rw [HG.out]; exact this
              · exact hsk2.keep (keep_drew (keep_set (keep_set (keep_refl _ _) _ _) _ _)) hne
              · exact keep_drew (keep_set (keep_set hgk2 _ _) _ _)
            case measure => simp [intOf]; omega
          · have c1 := hc i (by omega)
            have c2 := hc p (by omega)
            go_upto_region 10 with fail
            go_region
            all_goals go_wp2_with fail
            go_roundw
            case rel =>
              refine ⟨i + 1, swp dk i p, by go_num, by omega, by omega, ?_, ?_, ?_, ?_⟩
              · exact Sort.permIn_trans _ _ _ _ _ hpk (Sort.swp_permIn _ _ _ _ _ (by omega) (by omega) (by omega) (by omega) (by omega))
              · have := (hrk2.swap i p).drew
                rw [HG.out, HG.out]; exact this
              · exact hsk2.keep (keep_drew (keep_set (keep_set (keep_refl _ _) _ _) _ _)) hne
              · exact keep_drew (keep_set (keep_set hgk2 _ _) _ _)
            case measure => simp [intOf]; omega
    · go_wp2_with fail
      go_end0
      exact ⟨rfl, hgk, dk, hrk, hpk⟩
end Go.Proofs.Qxb6601455a
