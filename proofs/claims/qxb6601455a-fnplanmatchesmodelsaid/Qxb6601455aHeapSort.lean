import Derived.Test.Qxb6601455aHeap
namespace Go.Proofs.Qxb6601455a
open Go.ChangeShapes Go.WideShapes Go.ChangeAt Go.RowKit
open Go.Sort (swp ltInt PermIn SortedIn swo_ltInt siftDown heapBuild heapPop heapSort)
set_option linter.unusedVariables false

theorem size_sift (hi first lo : Nat) (d : Array Int) : (siftDown ltInt hi first lo d).size = d.size := by
  induction hn : hi - lo using Nat.strongRecOn generalizing lo d with
  | ind n ih =>
    by_cases h : hi ≤ 2 * lo + 1
    · rw [sift_end h]
    · by_cases h2 : ¬ 2 * lo + 1 + 1 < hi ∨ ltInt d[first + (2 * lo + 1)]! d[first + (2 * lo + 1) + 1]! = false
      · rw [sift_one rfl (by omega) h2]
        split
        · rw [ih _ (by omega) (2 * lo + 1) _ rfl, Sort.size_swp]
        · rfl
      · have h3 : 2 * lo + 1 + 1 < hi := Decidable.byContradiction fun h => h2 (.inl h)
        have h4 : ltInt d[first + (2 * lo + 1)]! d[first + (2 * lo + 1) + 1]! = true := by
          cases e : ltInt d[first + (2 * lo + 1)]! d[first + (2 * lo + 1) + 1]!
          · exact absurd (.inr e) h2
          · rfl
        rw [sift_two rfl h3 h4]
        split
        · rw [ih _ (by omega) (2 * lo + 1 + 1) _ rfl, Sort.size_swp]
        · rfl

set_option maxRecDepth 100000 in
set_option maxHeartbeats 4000000 in
theorem heap_any (g cap a b : Nat) (d : Array Int) (w : World) (hr : RowA w g d) (hab : a < b) (hb : b ≤ d.size) (hsz : d.size ≤ 1000000) :
    Calls Try.prog 20 #[.slice (some ⟨g, 0, none⟩) d.size cap, .int .i64 a, .int .i64 b] w fun e w' => e = .returned (.tuple #[]) ∧ w.grownBy w' (some g) ∧ ∃ d', RowA w' g d' ∧ PermIn a b d d' ∧ SortedIn ltInt a b d' := by
  obtain ⟨hi, hhi⟩ : ∃ hi : Nat, (b : Int) - a = hi := ⟨b - a, by omega⟩
  have hhn : hi = b - a := by omega
  have HS := Sort.heapSort_holds (lt := ltInt) swo_ltInt d a b (by omega) hb
  have HSS : Hid (heapSort ltInt d a b = heapPop ltInt a hi (heapBuild ltInt hi a ((hi - 1) / 2 + 1) d)) := by rw [hhn]; rfl
  have HHN : Hid _ := hhn
  have hhp : 1 ≤ hi := by omega
  have hhb : a + hi ≤ d.size := by omega
  clear hhn
  go_enter Try.func20, Try.ntmps20
  go_wp2
  go_loopw [9] (fun v wr => ∃ (z : Int) (dk : Array Int), v = .int .i64 z ∧ -1 ≤ z ∧ z < hi ∧ RowA wr g dk ∧ dk.size = d.size ∧ w.grownBy wr (some g) ∧ heapBuild ltInt hi a (z + 1).toNat dk = heapBuild ltInt hi a ((hi - 1) / 2 + 1) d) (fun v _ => (intOf v + 1).toNat)
  case atStart => exact ⟨((hi : Int) - 1) / 2, d, rfl, by omega, by omega, hr, rfl, keep_refl _ _, by congr 1; omega⟩
  case round =>
    obtain ⟨z, dk, rfl, hz1, hz2, hrk, hsk, hgk, hek⟩ := hrel
    have HE : Hid _ := hek
    clear hr hek
    by_cases hz : 0 ≤ z
    · obtain ⟨i, rfl⟩ := Int.eq_ofNat_of_zero_le hz
      have HC := sift_any g cap i hi a dk wr hrk (by omega) (by omega) (by omega)
      rw [hsk] at HC
      go_wp2_with (go_at_call 30; refine HC.mono ?_; rintro e w2 ⟨rfl, hg2, hr2⟩)
      go_roundw
      case rel =>
        refine ⟨(i : Int) - 1, _, rfl, by omega, by omega, hr2, by rw [size_sift]; exact hsk, keep_trans hgk hg2, ?_⟩
        rw [← HE.out, show ((i : Int) - 1 + 1).toNat = i by omega, show ((i : Int) + 1).toNat = i + 1 by omega]; rfl
      case measure => simp [intOf]
    · obtain rfl : z = -1 := by omega
      have hD1 : Hid (dk = heapBuild ltInt hi a ((hi - 1) / 2 + 1) d) := HE.out
      go_wp2_with fail
      go_loopw [10] (fun v wr => ∃ (z : Int) (dk2 : Array Int), v = .int .i64 z ∧ -1 ≤ z ∧ z < hi ∧ RowA wr g dk2 ∧ dk2.size = d.size ∧ w.grownBy wr (some g) ∧ heapPop ltInt a (z + 1).toNat dk2 = heapPop ltInt a hi dk) (fun v _ => (intOf v + 1).toNat)
      case atStart => exact ⟨(hi : Int) - 1, dk, rfl, by omega, by omega, hrk, hsk, hgk, by congr 1; omega⟩
      case round =>
        obtain ⟨z, dj, rfl, hz3, hz4, hrj, hsj, hgj, hej⟩ := hrel
        have HE2 : Hid _ := hej
        clear hrk hej
        by_cases hz5 : 0 ≤ z
        · obtain ⟨i, rfl⟩ := Int.eq_ofNat_of_zero_le hz5
          obtain ⟨G, HG, hc⟩ := hrj.named
          rw [hsj] at hc
          have c1 := hc a (by omega)
          have c2 := hc (a + i) (by omega)
          have hfz := hrj.frozen
          clear hc
          go_upto_region 10 with fail
          go_cut [] (fun wx => RowA wx g (swp dj a (a + i)) ∧ w.grownBy wx (some g))
          case first =>
            by_cases hi0 : i = 0
            · subst hi0
              go_region
              all_goals go_wp2_with fail
              go_meet
              case rel =>
                have := (hrj.swap a (a + 0)).drew
                refine ⟨?_, keep_drew (keep_set (keep_set hgj _ _) _ _)⟩
                rw [HG.out]; simpa using this
            · have hi1 : 0 < i := by omega
              go_region
              all_goals go_wp2_with fail
              go_meet
              case rel =>
                have := (hrj.swap a (a + i)).drew
                refine ⟨?_, keep_drew (keep_set (keep_set hgj _ _) _ _)⟩
                rw [HG.out, HG.out]; exact this
          case rest =>
            obtain ⟨hrc, hgc⟩ := hcut
            have HC := sift_any g cap 0 i a _ wc hrc (by rw [Sort.size_swp]; omega) (by rw [Sort.size_swp]; omega) (by omega)
            rw [Sort.size_swp, hsj] at HC
            go_wp2_with (go_at_call 30; refine HC.mono ?_; rintro e w2 ⟨rfl, hg2, hr2⟩)
            go_roundw
            case rel =>
              refine ⟨(i : Int) - 1, _, rfl, by omega, by omega, hr2, by rw [size_sift, Sort.size_swp]; exact hsj, keep_trans hgc hg2, ?_⟩
              rw [← HE2.out, show ((i : Int) - 1 + 1).toNat = i by omega, show ((i : Int) + 1).toNat = i + 1 by omega]; rfl
            case measure => simp [intOf]
        · obtain rfl : z = -1 := by omega
          go_wp2_with fail
          go_end0
          refine ⟨rfl, hgj, _, ?_, HS.1, HS.2⟩
          rw [HSS.out, ← hD1.out, ← HE2.out]; exact hrj
end Go.Proofs.Qxb6601455a
