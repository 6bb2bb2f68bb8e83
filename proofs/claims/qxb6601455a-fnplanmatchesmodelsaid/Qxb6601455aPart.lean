import Derived.Test.Qxb6601455aPartEq
namespace Go.Proofs.Qxb6601455a
open Go.ChangeShapes Go.WideShapes Go.ChangeAt Go.RowKit
open Go.Sort (swp ltInt PermIn SortedIn swo_ltInt)
set_option linter.unusedVariables false

set_option maxRecDepth 100000 in
set_option maxHeartbeats 16000000 in
theorem part_any (g cap a b pivot : Nat) (d : Array Int) (w : World) (hr : RowA w g d) (hap : a ≤ pivot) (hpb : pivot < b) (hb : b ≤ d.size) (hsz : d.size ≤ 1000000) :
    Calls Try.prog 27 #[.slice (some ⟨g, 0, none⟩) d.size cap, .int .i64 a, .int .i64 b, .int .i64 pivot] w fun e w' => w.grownBy w' (some g) ∧ ∃ (mid : Nat) (ap : Bool) (d' : Array Int), e = .returned (.tuple #[.int .i64 mid, .bool ap]) ∧ RowA w' g d' ∧ a ≤ mid ∧ mid < b ∧ PermIn a b d d' ∧
      (∀ t, a ≤ t → t < mid → ltInt d'[t]! d'[mid]! = true) ∧ (∀ t, mid < t → t < b → ltInt d'[t]! d'[mid]! = false) := by
  obtain ⟨p, hp⟩ : ∃ p, d[pivot]! = p := ⟨_, rfl⟩
  have PI0 : PInv (fun x => ltInt x p = true) (fun x => ltInt x p = false) d p a b (a + 1) (b - 1) (swp d a pivot) := by rw [← hp]; exact PInv.start hap hpb hb
  clear hp
  obtain ⟨G0, HG0, hc0⟩ := hr.named
  have c1 := hc0 a (by omega)
  have c2 := hc0 pivot (by omega)
  have hfz := hr.frozen
  clear hc0
  go_enter Try.func27, Try.ntmps27
  go_upto_region 1 with fail
  go_cut [] (fun wx => RowA wx g (swp d a pivot) ∧ w.grownBy wx (some g))
  case first =>
    by_cases hap2 : a = pivot
    · subst hap2
      go_region
      all_goals go_wp2_with fail
      go_meet
      case rel =>
        have := (hr.swap a a).drew
        refine ⟨?_, keep_drew (keep_set (keep_set (keep_refl _ _) _ _) _ _)⟩
        rw [HG0.out]; exact this
    · have hap3 : a < pivot := by omega
      go_region
      all_goals go_wp2_with fail
      go_meet
      case rel =>
        have := (hr.swap a pivot).drew
        refine ⟨?_, keep_drew (keep_set (keep_set (keep_refl _ _) _ _) _ _)⟩
        rw [HG0.out, HG0.out]; exact this
  case rest =>
    obtain ⟨hrc0, hgc0⟩ := hcut
    clear hr c1 c2 hfz
    obtain ⟨d1, hd1⟩ : ∃ d1, swp d a pivot = d1 := ⟨_, rfl⟩
    rw [hd1] at hrc0 PI0
    have hsk1 : d1.size = d.size := PI0.perm.1
    obtain ⟨G, HG, _⟩ := hrc0.named
    obtain ⟨b1, hb1⟩ : ∃ b1 : Nat, (b : Int) - 1 = b1 := ⟨b - 1, by omega⟩
    have hb1n : b1 = b - 1 := by omega
    rw [← hb1n] at PI0
    obtain ⟨a1, ha1⟩ : ∃ a1 : Nat, (a : Int) + 1 = a1 := ⟨a + 1, by omega⟩
    have ha1n : a1 = a + 1 := by omega
    rw [← ha1n] at PI0
    clear hd1 ha1n hb1n
    go_wp2_with fail
    go_loopw [10] (fun vi wr => ∃ i' : Nat, vi = .int .i64 i' ∧ a1 ≤ i' ∧ PInv (fun x => ltInt x p = true) (fun x => ltInt x p = false) d p a b i' b1 d1 ∧ RowA wr g d1 ∧ w.grownBy wr (some g)) (fun vi _ => b1 + 1 - (intOf vi).toNat)
    case atStart => exact ⟨a1, rfl, Nat.le_refl _, PI0, hrc0, hgc0⟩
    case round =>
      obtain ⟨i2, rfl, hi2, hpi2, hri2, hgi2⟩ := hrel
      have hai2 := hpi2.ai
      have hiji2 := hpi2.ij
      have hjbi2 := hpi2.jb
      clear hrc0 hgc0
      obtain ⟨on, hon⟩ : ∃ on : Bool, on = (decide (i2 ≤ b1) && ltInt (G i2) p) := ⟨_, rfl⟩
      have HON : Hid _ := hon
      clear hon
      have ca : wr.cell? ⟨g, a, none⟩ = some (.int .i32 p) := by rw [← hpi2.piv]; exact hri2.cell a (by omega)
      go_upto_region 3 with fail
      go_cut [43] (fun cv wx => cv = .bool on ∧ RowA wx g d1 ∧ w.grownBy wx (some g))
      case first =>
        by_cases hle : i2 ≤ b1
        · have ci := hri2.cells G HG.out i2 (by omega)
          have HT : Hid (on = ltInt (G i2) p) := by
            show _ = _
            rw [HON.out, decide_eq_true hle]; rfl
          go_quiet ((go_at_call 25; exact Calls.quiet_of_same (less_any _ _ _)))
          go_wp2_with fail
          go_meet
          case rel => exact ⟨by rw [HT.out], hri2.drewN _, keep_drewN hgi2 _⟩
        · have hd : decide ((i2 : Int) ≤ (b1 : Int)) = false := decide_eq_false (by omega)
          have HT : Hid (on = false) := by
            show _ = _
            rw [HON.out, decide_eq_false hle]; rfl
          go_quiet (fail)
          go_wp2_with fail
          go_meet
          case rel => exact ⟨by rw [HT.out], hri2.drewN _, keep_drewN hgi2 _⟩
      case rest =>
        obtain ⟨rfl, hrc, hgc⟩ := hcut
        clear ca hri2 hgi2
        cases on
        · have hsi2 : Hid (i2 ≤ b1 → ltInt d1[i2]! p = false) := by
            intro e
            have := HON.out
            rw [decide_eq_true e, Bool.true_and, HG.out] at this
            exact this.symm
          clear HON
          go_wp2_with fail
          go_loopw [11] (fun vj wr => ∃ j' : Nat, vj = .int .i64 j' ∧ j' ≤ b1 ∧ PInv (fun x => ltInt x p = true) (fun x => ltInt x p = false) d p a b i2 j' d1 ∧ RowA wr g d1 ∧ w.grownBy wr (some g)) (fun vj _ => (intOf vj).toNat)
          case atStart => exact ⟨b1, rfl, Nat.le_refl _, hpi2, hrc, hgc⟩
          case round =>
            obtain ⟨j2, rfl, hj2, hpj2, hrj2, hgj2⟩ := hrel
            have hijj2 := hpj2.ij
            have hjbj2 := hpj2.jb
            clear hrc hgc
            obtain ⟨dn, hdn⟩ : ∃ dn : Bool, dn = (decide (i2 ≤ j2) && !ltInt (G j2) p) := ⟨_, rfl⟩
            have HDN : Hid _ := hdn
            clear hdn
            have ca : wr.cell? ⟨g, a, none⟩ = some (.int .i32 p) := by rw [← hpj2.piv]; exact hrj2.cell a (by omega)
            go_upto_region 5 with fail
            go_cut [60] (fun cv wx => cv = .bool dn ∧ RowA wx g d1 ∧ w.grownBy wx (some g))
            case first =>
              by_cases hle : i2 ≤ j2
              · have ci := hrj2.cells G HG.out j2 (by omega)
                have HT : Hid (dn = !ltInt (G j2) p) := by
                  show _ = _
                  rw [HDN.out, decide_eq_true hle]; rfl
                go_quiet ((go_at_call 25; exact Calls.quiet_of_same (less_any _ _ _)))
                go_wp2_with fail
                go_meet
                case rel => exact ⟨by rw [HT.out], hrj2.drewN _, keep_drewN hgj2 _⟩
              · have hd : decide ((i2 : Int) ≤ (j2 : Int)) = false := decide_eq_false (by omega)
                have HT : Hid (dn = false) := by
                  show _ = _
                  rw [HDN.out, decide_eq_false hle]; rfl
                go_quiet (fail)
                go_wp2_with fail
                go_meet
                case rel => exact ⟨by rw [HT.out], hrj2.drewN _, keep_drewN hgj2 _⟩
            case rest =>
              obtain ⟨rfl, hrc, hgc⟩ := hcut
              clear ca hrj2 hgj2
              cases dn
              · have hsj2 : Hid (i2 ≤ j2 → ltInt d1[j2]! p = true) := by
                  intro e
                  have := HDN.out
                  rw [decide_eq_true e, Bool.true_and, HG.out] at this
                  simpa using this.symm
                clear HDN
                by_cases hgt : j2 < i2
                · have hfin := hpj2.part hb (by omega)
                  have ca := hrc.cells G HG.out a (by omega)
                  have cj := hrc.cells G HG.out j2 (by omega)
                  have hfz := hrc.frozen
                  by_cases hja : j2 = a
                  · subst hja
                    go_wp2_with fail
                    go_region
                    all_goals go_wp2_with fail
                    go_ret2
                    refine ⟨keep_drew (keep_set (keep_set hgc _ _) _ _), _, true, _, rfl, ?_, hfin⟩
                    have := (hrc.swap j2 j2).drew
                    rw [HG.out]; exact this
                  · have hja2 : a < j2 := by have := hpj2.ai; have := hpj2.ij; omega
                    go_wp2_with fail
                    go_region
                    all_goals go_wp2_with fail
                    go_ret2
                    refine ⟨keep_drew (keep_set (keep_set hgc _ _) _ _), _, true, _, rfl, ?_, hfin⟩
                    have := (hrc.swap j2 a).drew
                    rw [HG.out, HG.out]; exact this
                · have hne : i2 < j2 := by
                    rcases Nat.lt_or_ge i2 j2 with h | h
                    · exact h
                    · have e : i2 = j2 := by omega
                      have h1 := hsi2.out (by omega)
                      have h2 := hsj2.out (by omega)
                      rw [e] at h1; rw [h1] at h2; cases h2
                  have hsw := hpj2.swap hb hne (hsj2.out (by omega)) (hsi2.out (by omega))
                  have ci := hrc.cells G HG.out i2 (by omega)
                  have cj := hrc.cells G HG.out j2 (by omega)
                  have hfz := hrc.frozen
                  go_wp2_with fail
                  go_region
                  all_goals go_wp2_with fail
                  have hrd := (hrc.swap i2 j2).drew
                  have hrd2 : RowA ((((wc.setCell ⟨g, i2, none⟩ (.int .i32 (G j2))).setCell ⟨g, j2, none⟩ (.int .i32 (G i2))).drew)) g (swp d1 i2 j2) := by rw [HG.out, HG.out]; exact hrd
                  have hgd2 : w.grownBy ((((wc.setCell ⟨g, i2, none⟩ (.int .i32 (G j2))).setCell ⟨g, j2, none⟩ (.int .i32 (G i2))).drew)) (some g) := keep_drew (keep_set (keep_set hgc _ _) _ _)
                  go_loopw [10, 11] (fun vi vj wr => ∃ (i j : Nat) (dk : Array Int), vi = .int .i64 i ∧ vj = .int .i64 j ∧ PInv (fun x => ltInt x p = true) (fun x => ltInt x p = false) d p a b i j dk ∧ RowA wr g dk ∧ w.grownBy wr (some g)) (fun vi vj _ => (intOf vj + 1 - intOf vi).toNat)
                  case atStart => exact ⟨i2 + 1, j2 - 1, _, by go_num, by congr 1; omega, hsw, hrd2, hgd2⟩
                  case round =>
                    obtain ⟨i, j, dk, rfl, rfl, hpi, hrk, hgk⟩ := hrel
                    clear hrc hgc hrd hrd2 hgd2 hsw ci cj hfz
                    have hsk : dk.size = d.size := hpi.perm.1
                    obtain ⟨G3, HG3, _⟩ := hrk.named
                    go_wp2_with fail
                    go_loopw [10] (fun vi wr => ∃ i' : Nat, vi = .int .i64 i' ∧ i ≤ i' ∧ PInv (fun x => ltInt x p = true) (fun x => ltInt x p = false) d p a b i' j dk ∧ RowA wr g dk ∧ w.grownBy wr (some g)) (fun vi _ => j + 1 - (intOf vi).toNat)
                    case atStart => exact ⟨i, rfl, Nat.le_refl _, hpi, hrk, hgk⟩
                    case round =>
                      obtain ⟨i4, rfl, hi4, hpi4, hri4, hgi4⟩ := hrel
                      have hai4 := hpi4.ai
                      have hiji4 := hpi4.ij
                      have hjbi4 := hpi4.jb
                      clear hrk hgk
                      obtain ⟨on, hon⟩ : ∃ on : Bool, on = (decide (i4 ≤ j) && ltInt (G3 i4) p) := ⟨_, rfl⟩
                      have HON : Hid _ := hon
                      clear hon
                      have ca : wr.cell? ⟨g, a, none⟩ = some (.int .i32 p) := by rw [← hpi4.piv]; exact hri4.cell a (by omega)
                      go_upto_region 13 with fail
                      go_cut [112] (fun cv wx => cv = .bool on ∧ RowA wx g dk ∧ w.grownBy wx (some g))
                      case first =>
                        by_cases hle : i4 ≤ j
                        · have ci := hri4.cells G3 HG3.out i4 (by omega)
                          have HT : Hid (on = ltInt (G3 i4) p) := by
                            show _ = _
                            rw [HON.out, decide_eq_true hle]; rfl
                          go_quiet ((go_at_call 25; exact Calls.quiet_of_same (less_any _ _ _)))
                          go_wp2_with fail
                          go_meet
                          case rel => exact ⟨by rw [HT.out], hri4.drewN _, keep_drewN hgi4 _⟩
                        · have hd : decide ((i4 : Int) ≤ (j : Int)) = false := decide_eq_false (by omega)
                          have HT : Hid (on = false) := by
                            show _ = _
                            rw [HON.out, decide_eq_false hle]; rfl
                          go_quiet (fail)
                          go_wp2_with fail
                          go_meet
                          case rel => exact ⟨by rw [HT.out], hri4.drewN _, keep_drewN hgi4 _⟩
                      case rest =>
                        obtain ⟨rfl, hrc, hgc⟩ := hcut
                        clear ca hri4 hgi4
                        cases on
                        · have hsi4 : Hid (i4 ≤ j → ltInt dk[i4]! p = false) := by
                            intro e
                            have := HON.out
                            rw [decide_eq_true e, Bool.true_and, HG3.out] at this
                            exact this.symm
                          clear HON
                          go_wp2_with fail
                          go_loopw [11] (fun vj wr => ∃ j' : Nat, vj = .int .i64 j' ∧ j' ≤ j ∧ PInv (fun x => ltInt x p = true) (fun x => ltInt x p = false) d p a b i4 j' dk ∧ RowA wr g dk ∧ w.grownBy wr (some g)) (fun vj _ => (intOf vj).toNat)
                          case atStart => exact ⟨j, rfl, Nat.le_refl _, hpi4, hrc, hgc⟩
                          case round =>
                            obtain ⟨j4, rfl, hj4, hpj4, hrj4, hgj4⟩ := hrel
                            have hijj4 := hpj4.ij
                            have hjbj4 := hpj4.jb
                            clear hrc hgc
                            obtain ⟨dn, hdn⟩ : ∃ dn : Bool, dn = (decide (i4 ≤ j4) && !ltInt (G3 j4) p) := ⟨_, rfl⟩
                            have HDN : Hid _ := hdn
                            clear hdn
                            have ca : wr.cell? ⟨g, a, none⟩ = some (.int .i32 p) := by rw [← hpj4.piv]; exact hrj4.cell a (by omega)
                            go_upto_region 15 with fail
                            go_cut [129] (fun cv wx => cv = .bool dn ∧ RowA wx g dk ∧ w.grownBy wx (some g))
                            case first =>
                              by_cases hle : i4 ≤ j4
                              · have ci := hrj4.cells G3 HG3.out j4 (by omega)
                                have HT : Hid (dn = !ltInt (G3 j4) p) := by
                                  show _ = _
                                  rw [HDN.out, decide_eq_true hle]; rfl
                                go_quiet ((go_at_call 25; exact Calls.quiet_of_same (less_any _ _ _)))
                                go_wp2_with fail
                                go_meet
                                case rel => exact ⟨by rw [HT.out], hrj4.drewN _, keep_drewN hgj4 _⟩
                              · have hd : decide ((i4 : Int) ≤ (j4 : Int)) = false := decide_eq_false (by omega)
                                have HT : Hid (dn = false) := by
                                  show _ = _
                                  rw [HDN.out, decide_eq_false hle]; rfl
                                go_quiet (fail)
                                go_wp2_with fail
                                go_meet
                                case rel => exact ⟨by rw [HT.out], hrj4.drewN _, keep_drewN hgj4 _⟩
                            case rest =>
                              obtain ⟨rfl, hrc, hgc⟩ := hcut
                              clear ca hrj4 hgj4
                              cases dn
                              · have hsj4 : Hid (i4 ≤ j4 → ltInt dk[j4]! p = true) := by
                                  intro e
                                  have := HDN.out
                                  rw [decide_eq_true e, Bool.true_and, HG3.out] at this
                                  simpa using this.symm
                                clear HDN
                                by_cases hgt : j4 < i4
                                · have hfin := hpj4.part hb (by omega)
                                  have ca := hrc.cells G3 HG3.out a (by omega)
                                  have cj := hrc.cells G3 HG3.out j4 (by omega)
                                  have hfz := hrc.frozen
                                  by_cases hja : j4 = a
                                  · subst hja
                                    go_wp2_with fail
                                    go_region
                                    all_goals go_wp2_with fail
                                    go_ret2
                                    refine ⟨keep_drew (keep_set (keep_set hgc _ _) _ _), _, false, _, rfl, ?_, hfin⟩
                                    have := (hrc.swap j4 j4).drew
                                    rw [HG3.out]; exact this
                                  · have hja2 : a < j4 := by have := hpj4.ai; have := hpj4.ij; omega
                                    go_wp2_with fail
                                    go_region
                                    all_goals go_wp2_with fail
                                    go_ret2
                                    refine ⟨keep_drew (keep_set (keep_set hgc _ _) _ _), _, false, _, rfl, ?_, hfin⟩
                                    have := (hrc.swap j4 a).drew
                                    rw [HG3.out, HG3.out]; exact this
                                · have hne : i4 < j4 := by
                                    rcases Nat.lt_or_ge i4 j4 with h | h
                                    · exact h
                                    · have e : i4 = j4 := by omega
                                      have h1 := hsi4.out (by omega)
                                      have h2 := hsj4.out (by omega)
                                      rw [e] at h1; rw [h1] at h2; cases h2
                                  have hsw := hpj4.swap hb hne (hsj4.out (by omega)) (hsi4.out (by omega))
                                  have ci := hrc.cells G3 HG3.out i4 (by omega)
                                  have cj := hrc.cells G3 HG3.out j4 (by omega)
                                  have hfz := hrc.frozen
                                  go_wp2_with fail
                                  go_region
                                  all_goals go_wp2_with fail
                                  go_roundw
                                  case rel =>
                                    refine ⟨i4 + 1, j4 - 1, swp dk i4 j4, by go_num, by congr 1; omega, hsw, ?_, keep_drew (keep_set (keep_set hgc _ _) _ _)⟩
                                    have := (hrc.swap i4 j4).drew
                                    rw [HG3.out, HG3.out]; exact this
                                  case measure => simp [intOf]; omega
                              · have hle : i4 ≤ j4 ∧ ltInt dk[j4]! p = false := by
                                  have := HDN.out
                                  rw [← HG3.out]
                                  by_cases e : i4 ≤ j4
                                  · rw [decide_eq_true e, Bool.true_and] at this
                                    exact ⟨e, by simpa using this.symm⟩
                                  · rw [decide_eq_false e] at this; cases this
                                have hup := hpj4.down hle.1 hle.2
                                obtain ⟨hle1, _⟩ := hle
                                go_wp2_with fail
                                go_roundw
                                case rel => exact ⟨j4 - 1, by congr 1; omega, by omega, hup, hrc, hgc⟩
                                case measure => simp [intOf]; omega
                        · have hle : i4 ≤ j ∧ ltInt dk[i4]! p = true := by
                            have := HON.out
                            rw [← HG3.out]
                            by_cases e : i4 ≤ j
                            · rw [decide_eq_true e, Bool.true_and] at this
                              exact ⟨e, this.symm⟩
                            · rw [decide_eq_false e] at this; cases this
                          have hup := hpi4.up hle.1 hle.2
                          obtain ⟨hle1, _⟩ := hle
                          go_wp2_with fail
                          go_roundw
                          case rel => exact ⟨i4 + 1, by go_num, by omega, hup, hrc, hgc⟩
                          case measure => simp [intOf]; omega
              · have hle : i2 ≤ j2 ∧ ltInt d1[j2]! p = false := by
                  have := HDN.out
                  rw [← HG.out]
                  by_cases e : i2 ≤ j2
                  · rw [decide_eq_true e, Bool.true_and] at this
                    exact ⟨e, by simpa using this.symm⟩
                  · rw [decide_eq_false e] at this; cases this
                have hup := hpj2.down hle.1 hle.2
                obtain ⟨hle1, _⟩ := hle
                go_wp2_with fail
                go_roundw
                case rel => exact ⟨j2 - 1, by congr 1; omega, by omega, hup, hrc, hgc⟩
                case measure => simp [intOf]; omega
        · have hle : i2 ≤ b1 ∧ ltInt d1[i2]! p = true := by
            have := HON.out
            rw [← HG.out]
            by_cases e : i2 ≤ b1
            · rw [decide_eq_true e, Bool.true_and] at this
              exact ⟨e, this.symm⟩
            · rw [decide_eq_false e] at this; cases this
          have hup := hpi2.up hle.1 hle.2
          obtain ⟨hle1, _⟩ := hle
          go_wp2_with fail
          go_roundw
          case rel => exact ⟨i2 + 1, by go_num, by omega, hup, hrc, hgc⟩
          case measure => simp [intOf]; omega
end Go.Proofs.Qxb6601455a
