import Derived.Test.Qxb6601455aHeapSort
import Derived.Test.Qxb6601455aPartP
namespace Go.Proofs.Qxb6601455a
open Go.ChangeShapes Go.WideShapes Go.ChangeAt Go.RowKit
open Go.Sort (swp ltInt PermIn SortedIn swo_ltInt)
set_option linter.unusedVariables false

theorem RowA.cells {w : World} {g : Nat} {d : Array Int} (h : RowA w g d) (G : Nat → Int) (HG : ∀ t, G t = d[t]!) (t : Nat) (ht : t < d.size) : w.cell? ⟨g, t, none⟩ = some (.int .i32 (G t)) := by rw [HG]; exact h.cell t ht

set_option maxRecDepth 100000 in
set_option maxHeartbeats 8000000 in
theorem partEq_any (g cap a b pivot : Nat) (d : Array Int) (w : World) (hr : RowA w g d) (hap : a ≤ pivot) (hpb : pivot < b) (hb : b ≤ d.size) (hsz : d.size ≤ 1000000) :
    Calls Try.prog 26 #[.slice (some ⟨g, 0, none⟩) d.size cap, .int .i64 a, .int .i64 b, .int .i64 pivot] w fun e w' => w.grownBy w' (some g) ∧ ∃ (mid : Nat) (d' : Array Int), e = .returned (.int .i64 mid) ∧ RowA w' g d' ∧ a < mid ∧ mid ≤ b ∧ PermIn a b d d' ∧
      (∀ t, a ≤ t → t < mid → ltInt d[pivot]! d'[t]! = false) ∧ (∀ t, mid ≤ t → t < b → ltInt d[pivot]! d'[t]! = true) := by
  obtain ⟨p, hp⟩ : ∃ p, d[pivot]! = p := ⟨_, rfl⟩
  have PI0 : PInv (fun x => ltInt p x = false) (fun x => ltInt p x = true) d p a b (a + 1) (b - 1) (swp d a pivot) := by rw [← hp]; exact PInv.start hap hpb hb
  rw [hp]
  clear hp
  obtain ⟨G0, HG0, hc0⟩ := hr.named
  have c1 := hc0 a (by omega)
  have c2 := hc0 pivot (by omega)
  have hfz := hr.frozen
  clear hc0
  go_enter Try.func26, Try.ntmps26
  go_upto_region 1 with fail
  go_cut [] (fun wx => RowA wx g (swp d a pivot) ∧ w.grownBy wx (some g))
  case first =>
    by_cases hap2 : a = pivot
    · subst hap2
      go_region
      all_goals go_wp2_with fail
      go_meet
      case rel =>
        have := (hr.swap a a).drew
        refine ⟨?_, keep_drew (keep_set (keep_set (keep_refl _ _) _ _) _ _)⟩
        rw [HG0.out]; exact this
    · have hap3 : a < pivot := by omega
      go_region
      all_goals go_wp2_with fail
      go_meet
      case rel =>
        have := (hr.swap a pivot).drew
        refine ⟨?_, keep_drew (keep_set (keep_set (keep_refl _ _) _ _) _ _)⟩
        rw [HG0.out, HG0.out]; exact this
  case rest =>
    obtain ⟨hrc, hgc⟩ := hcut
    clear hr c1 c2 hfz
    go_wp2_with fail
    go_loopw [9, 10] (fun vi vj wr => ∃ (i j : Nat) (dk : Array Int), vi = .int .i64 i ∧ vj = .int .i64 j ∧ PInv (fun x => ltInt p x = false) (fun x => ltInt p x = true) d p a b i j dk ∧ RowA wr g dk ∧ w.grownBy wr (some g)) (fun vi vj _ => (intOf vj + 1 - intOf vi).toNat)
    case atStart => exact ⟨a + 1, b - 1, _, by go_num, by congr 1; omega, PI0, hrc, hgc⟩
    case round =>
      obtain ⟨i, j, dk, rfl, rfl, hpi, hrk, hgk⟩ := hrel
      clear hrc hgc PI0
      have hsk : dk.size = d.size := hpi.perm.1
      obtain ⟨G, HG, _⟩ := hrk.named
      go_wp2_with fail
      go_loopw [9] (fun vi wr => ∃ i' : Nat, vi = .int .i64 i' ∧ i ≤ i' ∧ PInv (fun x => ltInt p x = false) (fun x => ltInt p x = true) d p a b i' j dk ∧ RowA wr g dk ∧ w.grownBy wr (some g)) (fun vi _ => j + 1 - (intOf vi).toNat)
      case atStart => exact ⟨i, rfl, Nat.le_refl _, hpi, hrk, hgk⟩
      case round =>
        obtain ⟨i2, rfl, hi2, hpi2, hrk2, hgk2⟩ := hrel
        have hai := hpi2.ai
        have hij := hpi2.ij
        have hjb := hpi2.jb
        clear hrk hgk
        obtain ⟨on, hon⟩ : ∃ on : Bool, on = (decide (i2 ≤ j) && !ltInt p (G i2)) := ⟨_, rfl⟩
        have HON : Hid _ := hon
        clear hon
        have ca : wr.cell? ⟨g, a, none⟩ = some (.int .i32 p) := by rw [← hpi2.piv]; exact hrk2.cell a (by omega)
        go_upto_region 3 with fail
        go_cut [43] (fun cv wx => cv = .bool on ∧ RowA wx g dk ∧ w.grownBy wx (some g))
        case first =>
          by_cases hle : i2 ≤ j
          · have ci := hrk2.cells G HG.out i2 (by omega)
            have HT : Hid (on = !ltInt p (G i2)) := by
              show _ = _
              rw [HON.out, decide_eq_true hle]; rfl
            go_quiet ((go_at_call 25; exact Calls.quiet_of_same (less_any _ _ _)))
            go_wp2_with fail
            go_meet
            case rel => exact ⟨by rw [HT.out], hrk2.drewN _, keep_drewN hgk2 _⟩
          · have hd : decide ((i2 : Int) ≤ (j : Int)) = false := decide_eq_false (by omega)
            have HT : Hid (on = false) := by
              show _ = _
              rw [HON.out, decide_eq_false hle]; rfl
            go_quiet (fail)
            go_wp2_with fail
            go_meet
            case rel => exact ⟨by rw [HT.out], hrk2.drewN _, keep_drewN hgk2 _⟩
        case rest =>
          obtain ⟨rfl, hrc, hgc⟩ := hcut
          clear ca hrk2 hgk2
          cases on
          · have hstop : Hid (i2 ≤ j → ltInt p dk[i2]! = true) := by
              intro e
              have := HON.out
              rw [decide_eq_true e, Bool.true_and, HG.out] at this
              simpa using this.symm
            clear HON
            go_wp2_with fail
            go_loopw [10] (fun vj wr => ∃ j' : Nat, vj = .int .i64 j' ∧ j' ≤ j ∧ PInv (fun x => ltInt p x = false) (fun x => ltInt p x = true) d p a b i2 j' dk ∧ RowA wr g dk ∧ w.grownBy wr (some g)) (fun vj _ => (intOf vj).toNat)
            case atStart => exact ⟨j, rfl, Nat.le_refl _, hpi2, hrc, hgc⟩
            case round =>
              obtain ⟨j2, rfl, hj2, hpi3, hrk3, hgk3⟩ := hrel
              have hij3 := hpi3.ij
              have hjb3 := hpi3.jb
              clear hrc hgc
              obtain ⟨dn, hdn⟩ : ∃ dn : Bool, dn = (decide (i2 ≤ j2) && ltInt p (G j2)) := ⟨_, rfl⟩
              have HDN : Hid _ := hdn
              clear hdn
              have ca : wr.cell? ⟨g, a, none⟩ = some (.int .i32 p) := by rw [← hpi3.piv]; exact hrk3.cell a (by omega)
              go_upto_region 5 with fail
              go_cut [59] (fun cv wx => cv = .bool dn ∧ RowA wx g dk ∧ w.grownBy wx (some g))
              case first =>
                by_cases hle : i2 ≤ j2
                · have ci := hrk3.cells G HG.out j2 (by omega)
                  have HT : Hid (dn = ltInt p (G j2)) := by
                    show _ = _
                    rw [HDN.out, decide_eq_true hle]; rfl
                  go_quiet ((go_at_call 25; exact Calls.quiet_of_same (less_any _ _ _)))
                  go_wp2_with fail
                  go_meet
                  case rel => exact ⟨by rw [HT.out], hrk3.drewN _, keep_drewN hgk3 _⟩
                · have hd : decide ((i2 : Int) ≤ (j2 : Int)) = false := decide_eq_false (by omega)
                  have HT : Hid (dn = false) := by
                    show _ = _
                    rw [HDN.out, decide_eq_false hle]; rfl
                  go_quiet (fail)
                  go_wp2_with fail
                  go_meet
                  case rel => exact ⟨by rw [HT.out], hrk3.drewN _, keep_drewN hgk3 _⟩
              case rest =>
                obtain ⟨rfl, hrc, hgc⟩ := hcut
                clear ca hrk3 hgk3
                cases dn
                · have hstop2 : Hid (i2 ≤ j2 → ltInt p dk[j2]! = false) := by
                    intro e
                    have := HDN.out
                    rw [decide_eq_true e, Bool.true_and, HG.out] at this
                    exact this.symm
                  clear HDN
                  by_cases hgt : j2 < i2
                  · go_wp2_with fail
                    go_ret
                    refine ⟨hgc, i2, dk, rfl, hrc, by omega, by omega, hpi3.perm, fun t h1 h2 => ?_, fun t h1 h2 => hpi3.right t (by omega) h2⟩
                    by_cases e : t = a
                    · subst e; rw [hpi3.piv]; exact swo_ltInt.irrefl p
                    · exact hpi3.left t (by omega) h2
                  · have hne : i2 < j2 := by
                      rcases Nat.lt_or_ge i2 j2 with h | h
                      · exact h
                      · have e : i2 = j2 := by omega
                        have h1 := hstop.out (by omega)
                        have h2 := hstop2.out (by omega)
                        rw [e] at h1; rw [h1] at h2; cases h2
                    have hsw := hpi3.swap hb hne (hstop2.out (by omega)) (hstop.out (by omega))
                    have ci := hrc.cells G HG.out i2 (by omega)
                    have cj := hrc.cells G HG.out j2 (by omega)
                    have hfz := hrc.frozen
                    go_wp2_with fail
                    go_region
                    all_goals go_wp2_with fail
                    go_roundw
                    case rel =>
                      refine ⟨i2 + 1, j2 - 1, swp dk i2 j2, by go_num, by congr 1; omega, hsw, ?_, keep_drew (keep_set (keep_set hgc _ _) _ _)⟩
                      have := (hrc.swap i2 j2).drew
                      rw [HG.out, HG.out]; exact this
                    case measure => simp [intOf]; omega
                · have hle : i2 ≤ j2 ∧ ltInt p dk[j2]! = true := by
                    have := HDN.out
                    rw [← HG.out]
                    by_cases e : i2 ≤ j2
                    · rw [decide_eq_true e, Bool.true_and] at this
                      exact ⟨e, this.symm⟩
                    · rw [decide_eq_false e] at this; cases this
                  have hup := hpi3.down hle.1 hle.2
                  obtain ⟨hle1, _⟩ := hle
                  go_wp2_with fail
                  go_roundw
                  case rel => exact ⟨j2 - 1, by congr 1; omega, by omega, hup, hrc, hgc⟩
                  case measure => simp [intOf]; omega
          · have hle : i2 ≤ j ∧ ltInt p dk[i2]! = false := by
              have := HON.out
              rw [← HG.out]
              by_cases e : i2 ≤ j
              · rw [decide_eq_true e, Bool.true_and] at this
                exact ⟨e, by simpa using this.symm⟩
              · rw [decide_eq_false e] at this; cases this
            have hup := hpi2.up hle.1 hle.2
            obtain ⟨hle1, _⟩ := hle
            go_wp2_with fail
            go_roundw
            case rel => exact ⟨i2 + 1, by go_num, by omega, hup, hrc, hgc⟩
            case measure => simp [intOf]; omega
end Go.Proofs.Qxb6601455a
