import Derived.Test.Qxb6601455aIns
namespace Go.Proofs.Qxb6601455a
open Go.ChangeShapes Go.WideShapes Go.ChangeAt Go.RowKit
open Go.Sort (swp ltInt PermIn SortedIn Ins swo_ltInt siftDown heapBuild heapPop heapSort)
set_option linter.unusedVariables false

set_option maxRecDepth 100000 in
set_option maxHeartbeats 4000000 in
theorem reverse_any (g cap a b : Nat) (d : Array Int) (w : World) (hr : RowA w g d) (hab : a < b) (hb : b ≤ d.size) (hsz : d.size ≤ 1000000) :
    Calls Try.prog 23 #[.slice (some ⟨g, 0, none⟩) d.size cap, .int .i64 a, .int .i64 b] w fun e w' => e = .returned (.tuple #[]) ∧ w.grownBy w' (some g) ∧ ∃ d', RowA w' g d' ∧ PermIn a b d d' := by
  go_enter Try.func23, Try.ntmps23
  go_wp2
  go_loopw [6, 7] (fun vi vj wr => ∃ (i j : Nat) (dk : Array Int), vi = .int .i64 i ∧ vj = .int .i64 j ∧ a ≤ i ∧ j < b ∧ RowA wr g dk ∧ w.grownBy wr (some g) ∧ PermIn a b d dk) (fun _ vj _ => (intOf vj).toNat)
  case atStart => exact ⟨a, b - 1, d, rfl, by congr 1; omega, Nat.le_refl _, by omega, hr, keep_refl _ _, Sort.permIn_refl _ _ _⟩
  case round =>
    obtain ⟨i, j, dk, rfl, rfl, hai, hjb, hrk, hgk, hpk⟩ := hrel
    clear hr
    have hsk : dk.size = d.size := hpk.1
    by_cases hlt : i < j
    · obtain ⟨G, HG, hc⟩ := hrk.named
      rw [hsk] at hc
      have c1 := hc i (by omega)
      have c2 := hc j (by omega)
      have hfz := hrk.frozen
      clear hc
      go_wp2_with fail
      go_region
      all_goals go_wp2_with fail
      go_roundw
      case rel =>
        refine ⟨i + 1, j - 1, swp dk i j, by go_num, by congr 1; omega, by omega, by omega, ?_, ?_, ?_⟩
        · have := (hrk.swap i j).drew
          rw [HG.out, HG.out]; exact this
        · exact keep_drew (keep_set (keep_set hgk _ _) _ _)
        · exact Sort.permIn_trans _ _ _ _ _ hpk (Sort.swp_permIn _ _ _ _ _ (by omega) (by omega) (by omega) (by omega) (by omega))
      case measure => simp [intOf]; omega
    · go_wp2_with fail
      go_end0
      exact ⟨rfl, hgk, dk, hrk, hpk⟩

theorem sift_end {hi first root : Nat} {d : Array Int} (h : hi ≤ 2 * root + 1) : siftDown ltInt hi first root d = d := by
  rw [siftDown]; simp [h]
theorem sift_two {hi first root c : Nat} {d : Array Int} (hc : c = 2 * root + 1) (h2 : c + 1 < hi) (hl : ltInt d[first + c]! d[first + c + 1]! = true) :
    siftDown ltInt hi first root d = if ltInt d[first + root]! d[first + (c + 1)]! = true then siftDown ltInt hi first (c + 1) (swp d (first + root) (first + (c + 1))) else d := by
  subst hc
  rw [siftDown, dif_neg (by omega)]
  rw [if_pos (by simp [h2, hl])]
  cases hx : ltInt d[first + root]! d[first + (2 * root + 1 + 1)]!
  · simp
  · simp; intro h3; omega
theorem sift_one {hi first root c : Nat} {d : Array Int} (hc : c = 2 * root + 1) (h : c < hi) (h2 : ¬ c + 1 < hi ∨ ltInt d[first + c]! d[first + c + 1]! = false) :
    siftDown ltInt hi first root d = if ltInt d[first + root]! d[first + c]! = true then siftDown ltInt hi first c (swp d (first + root) (first + c)) else d := by
  subst hc
  rw [siftDown, dif_neg (by omega)]
  rw [if_neg (by rcases h2 with h2 | h2 <;> simp [h2])]
  cases hx : ltInt d[first + root]! d[first + (2 * root + 1)]!
  · simp
  · simp

set_option maxRecDepth 100000 in
set_option maxHeartbeats 4000000 in
theorem sift_any (g cap lo hi first : Nat) (d : Array Int) (w : World) (hr : RowA w g d) (hb : first + hi ≤ d.size) (hsz : d.size ≤ 1000000) (hlo : lo ≤ hi) :
    Calls Try.prog 30 #[.slice (some ⟨g, 0, none⟩) d.size cap, .int .i64 lo, .int .i64 hi, .int .i64 first] w fun e w' => e = .returned (.tuple #[]) ∧ w.grownBy w' (some g) ∧ RowA w' g (siftDown ltInt hi first lo d) := by
  go_enter Try.func30, Try.ntmps30
  go_wp2
  go_loopw [8] (fun v wr => ∃ (root : Nat) (dk : Array Int), v = .int .i64 root ∧ root ≤ hi ∧ RowA wr g dk ∧ dk.size = d.size ∧ w.grownBy wr (some g) ∧ siftDown ltInt hi first root dk = siftDown ltInt hi first lo d) (fun v _ => hi - (intOf v).toNat)
  case atStart => exact ⟨lo, d, rfl, hlo, hr, rfl, keep_refl _ _, rfl⟩
  case round =>
    obtain ⟨root, dk, rfl, hrt, hrk, hsk, hgk, hek⟩ := hrel
    have HE : Hid _ := hek
    clear hr hek
    by_cases hend : hi ≤ 2 * root + 1
    · have HX := sift_end (d := dk) (first := first) hend
      have HX2 : Hid _ := HX
      clear HX
      go_wp2_with fail
      go_end0
      exact ⟨rfl, hgk, by rw [← HE.out, HX2.out]; exact hrk⟩
    · obtain ⟨G, HG, hc⟩ := hrk.named
      rw [hsk] at hc
      obtain ⟨ch, hch⟩ : ∃ ch : Nat, 2 * (root : Int) + 1 = ch := ⟨2 * root + 1, by omega⟩
      have hchl : ch < hi := by omega
      have HCH : Hid (ch = 2 * root + 1) := by show _ = _; omega
      have c1 := hc (first + ch) (by omega)
      obtain ⟨two, htwo⟩ : ∃ two : Bool, two = (decide (ch + 1 < hi) && ltInt (G (first + ch)) (G (first + ch + 1))) := ⟨_, rfl⟩
      have HTWO : Hid _ := htwo
      clear htwo
      go_upto_region 3 with fail
      go_cut [36] (fun cv wx => cv = .bool two ∧ RowA wx g dk ∧ w.grownBy wx (some g))
      case first =>
        by_cases h2 : (ch : Int) + 1 < (hi : Int)
        · have c2 := hc (first + ch + 1) (by omega)
          have HT : Hid (two = ltInt (G (first + ch)) (G (first + ch + 1))) := by
            show _ = _
            rw [HTWO.out, decide_eq_true (by omega)]; rfl
          clear hc
          go_quiet ((go_at_call 25; exact Calls.quiet_of_same (less_any _ _ _)))
          go_wp2_with fail
          go_meet
          case rel => exact ⟨by rw [HT.out], hrk.drewN _, keep_drewN hgk _⟩
        · have hd : decide ((ch : Int) + 1 < (hi : Int)) = false := decide_eq_false h2
          have HT : Hid (two = false) := by
            show _ = _
            rw [HTWO.out, decide_eq_false (by omega)]; rfl
          clear hc
          go_quiet (fail)
          go_wp2_with fail
          go_meet
          case rel => exact ⟨by rw [HT.out], hrk.drewN _, keep_drewN hgk _⟩
      case rest =>
        obtain ⟨rfl, hrc, hgc⟩ := hcut
        have hc' : ∀ t, t < d.size → wc.cell? ⟨g, t, none⟩ = some (.int .i32 (G t)) := fun t ht => by rw [HG.out]; exact hrc.cell t (by omega)
        clear hc c1 hrk hgk
        have hc := hc'
        clear hc'
        have c0 := hc (first + root) (by omega)
        have hfz := hrc.frozen
        cases two
        · have HEQ : Hid _ := sift_one (first := first) (d := dk) HCH.out hchl (by
            have := HTWO.out
            by_cases e : ch + 1 < hi
            · rw [decide_eq_true e, Bool.true_and, HG.out, HG.out] at this; exact .inr this.symm
            · exact .inl e)
          have c3 := hc (first + ch) (by omega)
          clear hc
          cases hm : ltInt (G (first + root)) (G (first + ch))
          · go_upto_region 5 with fail
            go_quiet ((go_at_call 25; exact Calls.quiet_of_same (less_any _ _ _)))
            go_wp2_with fail
            refine bodyPost_ret (results_none rfl _ _ _) rfl ?_
            refine ⟨rfl, keep_drewN hgc _, ?_⟩
            rw [← HE.out, HEQ.out, if_neg (by rw [← HG.out, ← HG.out, hm]; simp)]
            exact hrc.drewN _
          · go_upto_region 5 with fail
            go_quiet ((go_at_call 25; exact Calls.quiet_of_same (less_any _ _ _)))
            go_upto_region 6 with fail
            go_region
            all_goals go_wp2_with fail
            go_roundw
            case rel =>
              refine ⟨ch, swp dk (first + root) (first + ch), by go_num, by omega, ?_, by rw [Sort.size_swp]; exact hsk, keep_set (keep_set (keep_drewN hgc _) _ _) _ _, ?_⟩
              · rw [HG.out, HG.out]; exact (hrc.drewN _).swap _ _
              · rw [← HE.out, HEQ.out, if_pos (by rw [← HG.out, ← HG.out]; exact hm)]
            case measure => simp [intOf]; omega
        · have h2 : ch + 1 < hi := by
            have := HTWO.out
            by_cases e : ch + 1 < hi
            · exact e
            · rw [decide_eq_false e] at this; cases this
          have HEQ : Hid _ := sift_two (first := first) (d := dk) HCH.out h2 (by
            have := HTWO.out
            rw [decide_eq_true h2, Bool.true_and, HG.out, HG.out] at this; exact this.symm)
          have c3 := hc (first + (ch + 1)) (by omega)
          clear hc
          cases hm : ltInt (G (first + root)) (G (first + (ch + 1)))
          · go_upto_region 5 with fail
            go_quiet ((go_at_call 25; exact Calls.quiet_of_same (less_any _ _ _)))
            go_wp2_with fail
            refine bodyPost_ret (results_none rfl _ _ _) rfl ?_
            refine ⟨rfl, keep_drewN hgc _, ?_⟩
            rw [← HE.out, HEQ.out, if_neg (by rw [← HG.out, ← HG.out, hm]; simp)]
            exact hrc.drewN _
          · go_upto_region 5 with fail
            go_quiet ((go_at_call 25; exact Calls.quiet_of_same (less_any _ _ _)))
            go_upto_region 6 with fail
            go_region
            all_goals go_wp2_with fail
            go_roundw
            case rel =>
              refine ⟨(ch + 1), swp dk (first + root) (first + (ch + 1)), by go_num, by omega, ?_, by rw [Sort.size_swp]; exact hsk, keep_set (keep_set (keep_drewN hgc _) _ _) _ _, ?_⟩
              · rw [HG.out, HG.out]; exact (hrc.drewN _).swap _ _
              · rw [← HE.out, HEQ.out, if_pos (by rw [← HG.out, ← HG.out]; exact hm)]
            case measure => simp [intOf]; omega
end Go.Proofs.Qxb6601455a
