import Derived.Test.Qxb6601455aPart
namespace Go.Proofs.Qxb6601455a
open Go.ChangeShapes Go.WideShapes Go.ChangeAt Go.RowKit
open Go.Sort (swp ltInt PermIn SortedIn swo_ltInt Ins)
set_option linter.unusedVariables false

/-- What the trial sort holds ahead of a step. -/
structure QInv (d : Array Int) (a b i : Nat) (dk : Array Int) : Prop where
  ai : a < i
  ib : i ≤ b
  perm : PermIn a b d dk
  sorted : SortedIn ltInt a i dk

theorem QInv.up {d : Array Int} {a b i : Nat} {dk : Array Int} (h : QInv d a b i dk) (hib : i < b) (hl : ltInt dk[i]! dk[i - 1]! = false) : QInv d a b (i + 1) dk :=
  ⟨by have := h.ai; omega, hib, h.perm, h.sorted.snoc swo_ltInt hl⟩

/-- Behind the exchange of i and i - 1: the moved one is to be shifted down. -/
theorem QInv.swap {d : Array Int} {a b i : Nat} {dk : Array Int} (h : QInv d a b i dk) (hib : i < b) (hb : b ≤ d.size) : PermIn a b d (swp dk i (i - 1)) ∧ Ins ltInt a (i - 1) (i - 1) (swp dk i (i - 1)) := by
  have hai := h.ai
  have hs := h.perm.1
  refine ⟨Sort.permIn_trans _ _ _ _ _ h.perm (Sort.swp_permIn _ _ _ _ _ (by omega) hib (by omega) (by omega) (by omega)), ⟨fun p q h1 h2 h3 h4 h5 => ?_, fun q h1 h2 => by omega⟩⟩
  rw [Sort.swp_other _ _ _ _ (by omega) (by omega), Sort.swp_other _ _ _ _ (by omega) (by omega)]
  exact h.sorted p q h1 h2 (by omega)

set_option maxRecDepth 100000 in
set_option maxHeartbeats 16000000 in
theorem partial_any (g cap a b : Nat) (d : Array Int) (w : World) (hr : RowA w g d) (hab : a < b) (hb : b ≤ d.size) (hsz : d.size ≤ 1000000) (hB : Sort.Below ltInt a b d) :
    Calls Try.prog 24 #[.slice (some ⟨g, 0, none⟩) d.size cap, .int .i64 a, .int .i64 b] w fun e w' => w.grownBy w' (some g) ∧ ∃ (r : Bool) (d' : Array Int), e = .returned (.bool r) ∧ RowA w' g d' ∧ PermIn a b d d' ∧ (r = true → SortedIn ltInt a b d') := by
  go_enter Try.func24, Try.ntmps24
  go_wp2
  go_loopw [7, 8] (fun vi vs wr => ∃ (i s : Nat) (dk : Array Int), vi = .int .i64 i ∧ vs = .int .i64 s ∧ s ≤ 5 ∧ QInv d a b i dk ∧ RowA wr g dk ∧ w.grownBy wr (some g)) (fun _ vs _ => 5 - (intOf vs).toNat)
  case atStart => exact ⟨a + 1, 0, d, by go_num, rfl, by omega, ⟨by omega, by omega, Sort.permIn_refl _ _ _, fun p q h1 h2 h3 => by omega⟩, hr, keep_refl _ _⟩
  case round =>
    obtain ⟨i, s, dk, rfl, rfl, hs5, hq, hrk, hgk⟩ := hrel
    clear hr
    have hsk : dk.size = d.size := hq.perm.1
    by_cases hs : s < 5
    · obtain ⟨G, HG, _⟩ := hrk.named
      go_wp2_with fail
      go_loopw [7] (fun vi wr => ∃ i' : Nat, vi = .int .i64 i' ∧ QInv d a b i' dk ∧ RowA wr g dk ∧ w.grownBy wr (some g)) (fun vi _ => b - (intOf vi).toNat)
      case atStart => exact ⟨i, rfl, hq, hrk, hgk⟩
      case round =>
        obtain ⟨i2, rfl, hq2, hr2, hg2⟩ := hrel
        have hai := hq2.ai
        have hib := hq2.ib
        clear hrk hgk
        obtain ⟨on, hon⟩ : ∃ on : Bool, on = (decide (i2 < b) && !ltInt (G i2) (G (i2 - 1))) := ⟨_, rfl⟩
        have HON : Hid _ := hon
        clear hon
        go_upto_region 5 with fail
        go_cut [32] (fun cv wx => cv = .bool on ∧ RowA wx g dk ∧ w.grownBy wx (some g))
        case first =>
          by_cases hle : i2 < b
          · have ci := hr2.cells G HG.out i2 (by omega)
            have cj := hr2.cells G HG.out (i2 - 1) (by omega)
            have HT : Hid (on = !ltInt (G i2) (G (i2 - 1))) := by
              show _ = _
              rw [HON.out, decide_eq_true hle]; rfl
            go_quiet ((go_at_call 25; exact Calls.quiet_of_same (less_any _ _ _)))
            go_wp2_with fail
            go_meet
            case rel => exact ⟨by rw [HT.out], hr2.drewN _, keep_drewN hg2 _⟩
          · have hd : decide ((i2 : Int) < (b : Int)) = false := decide_eq_false (by omega)
            have HT : Hid (on = false) := by
              show _ = _
              rw [HON.out, decide_eq_false hle]; rfl
            go_quiet (fail)
            go_wp2_with fail
            go_meet
            case rel => exact ⟨by rw [HT.out], hr2.drewN _, keep_drewN hg2 _⟩
        case rest =>
          obtain ⟨rfl, hrc, hgc⟩ := hcut
          clear hr2 hg2
          cases on
          · by_cases hend : i2 = b
            · have heb : ((i2 : Int) == (b : Int)) = true := by simp [hend]
              have HE : Hid _ := hend
              clear hend
              go_wp2_with fail
              go_ret
              exact ⟨hgc, true, dk, rfl, hrc, hq2.perm, fun _ => by have := hq2.sorted; rwa [HE.out] at this⟩
            · have heb : ((i2 : Int) == (b : Int)) = false := by simp; omega
              have hib2 : i2 < b := by omega
              by_cases h50 : (b : Int) - a < 50
              · go_wp2_with fail
                go_ret
                exact ⟨hgc, false, dk, rfl, hrc, hq2.perm, fun h => by cases h⟩
              · obtain ⟨hpsw, hins⟩ := hq2.swap hib2 hb
                have ci := hrc.cells G HG.out i2 (by omega)
                have cj := hrc.cells G HG.out (i2 - 1) (by omega)
                have hfz := hrc.frozen
                go_upto_region 11 with fail
                go_cut [] (fun wx => RowA wx g (swp dk i2 (i2 - 1)) ∧ w.grownBy wx (some g))
                case first =>
                  go_region
                  all_goals go_wp2_with fail
                  go_meet
                  case rel =>
                    refine ⟨?_, keep_drew (keep_set (keep_set hgc _ _) _ _)⟩
                    have := (hrc.swap i2 (i2 - 1)).drew
                    rw [HG.out, HG.out]; exact this
                case rest =>
                  obtain ⟨hr3, hg3⟩ := hcut
                  clear hrc hgc ci cj hfz
                  go_upto_if 61 with fail
                  go_cut [9] (fun _ wx => ∃ dm, PermIn a b d dm ∧ SortedIn ltInt a i2 dm ∧ RowA wx g dm ∧ w.grownBy wx (some g))
                  case first =>
                    by_cases h2 : (i2 : Int) - a < 2
                    · go_wp2_with fail
                      go_meet
                      case rel => exact ⟨_, hpsw, fun p q h1 h2 h3 => by omega, hr3, hg3⟩
                    · go_wp2_with fail
                      go_loopw [9] (fun vj wr => ∃ (j : Nat) (dj : Array Int), vj = .int .i64 j ∧ a ≤ j ∧ j ≤ i2 - 1 ∧ PermIn a b d dj ∧ Ins ltInt a j (i2 - 1) dj ∧ RowA wr g dj ∧ w.grownBy wr (some g)) (fun vj _ => (intOf vj).toNat)
                      case atStart => exact ⟨i2 - 1, _, by congr 1; omega, by omega, Nat.le_refl _, hpsw, hins, hr3, hg3⟩
                      case round =>
                        obtain ⟨j, dj, rfl, haj, hji, hpj, hinj, hrj, hgj⟩ := hrel
                        clear hr3 hg3 hins hpsw
                        have hsj : dj.size = d.size := hpj.1
                        obtain ⟨J, HJ, hcj⟩ := hrj.named
                        rw [hsj] at hcj
                        have hfz := hrj.frozen
                        by_cases hj1 : 1 ≤ j
                        · have c1 := hcj j (by omega)
                          have c2 := hcj (j - 1) (by omega)
                          cases hl : ltInt (J j) (J (j - 1))
                          · have OUT : Hid (SortedIn ltInt a i2 dj) := by
                              have := hinj.stop swo_ltInt (.inr (by rw [← HJ.out, ← HJ.out]; exact hl))
                              rwa [show i2 - 1 + 1 = i2 from by omega] at this
                            clear hinj
                            go_upto_region 16 with fail
                            go_quiet ((go_at_call 25; exact Calls.quiet_of_same (less_any _ _ _)))
                            go_wp2_with fail
                            go_meet
                            case rel => exact ⟨dj, hpj, OUT.out, hrj.drewN _, keep_drewN hgj _⟩
                          · have hla : a < j := by
                              rcases Nat.lt_or_ge a j with h | h
                              · exact h
                              · exfalso
                                have e : j = a := by omega
                                have := Sort.Below.perm hB hb hpj
                                rcases this with h0 | h0
                                · omega
                                · have h1 := h0 j (by omega) (by omega)
                                  rw [← e, ← HJ.out, ← HJ.out, hl] at h1
                                  cases h1
                            have hst : Hid (Ins ltInt a (j - 1) (i2 - 1) (swp dj j (j - 1))) := by
                              obtain ⟨k, rfl⟩ : ∃ k, j = k + 1 := ⟨j - 1, by omega⟩
                              exact hinj.step (by have := hl; rw [HJ.out, HJ.out] at this; exact this) (by omega) (by omega)
                            clear hinj
                            go_upto_region 16 with fail
                            go_quiet ((go_at_call 25; exact Calls.quiet_of_same (less_any _ _ _)))
                            go_wp2_with fail
                            go_region
                            all_goals go_wp2_with fail
                            go_roundw
                            case rel =>
                              refine ⟨j - 1, swp dj j (j - 1), by congr 1; omega, by omega, by omega, ?_, hst.out, ?_, ?_⟩
                              · exact Sort.permIn_trans _ _ _ _ _ hpj (Sort.swp_permIn _ _ _ _ _ (by omega) (by omega) (by omega) (by omega) (by omega))
                              · have := (hrj.drewN (nq + 1)).swap j (j - 1)
                                rw [HJ.out, HJ.out]; exact this
                              · exact keep_drewN (keep_set (keep_set hgj _ _) _ _) (nq + 1)
                            case measure => simp [intOf]; omega
                        · have OUT : Hid (SortedIn ltInt a i2 dj) := by
                            have := hinj.stop swo_ltInt (.inl (by omega))
                            rwa [show i2 - 1 + 1 = i2 from by omega] at this
                          clear hinj
                          go_wp2_with fail
                          go_meet
                          case rel => exact ⟨dj, hpj, OUT.out, hrj, hgj⟩
                  case rest =>
                    obtain ⟨dm, hpm, hsm, hrm, hgm⟩ := hcut
                    clear hr3 hg3 hins hpsw
                    by_cases h2 : (b : Int) - i2 < 2
                    · go_wp2_with fail
                      go_roundw
                      case rel => exact ⟨i2, s + 1, dm, rfl, by go_num, by omega, ⟨hai, hib, hpm, hsm⟩, hrm, hgm⟩
                      case measure => simp [intOf]; omega
                    · go_wp2_with fail
                      go_loopw [10] (fun vj wr => ∃ (j : Nat) (dj : Array Int), vj = .int .i64 j ∧ i2 < j ∧ j ≤ b ∧ PermIn a b d dj ∧ SortedIn ltInt a i2 dj ∧ RowA wr g dj ∧ w.grownBy wr (some g)) (fun vj _ => b - (intOf vj).toNat)
                      case atStart => exact ⟨i2 + 1, dm, by go_num, by omega, by omega, hpm, hsm, hrm, hgm⟩
                      case round =>
                        obtain ⟨j, dj, rfl, haj, hji, hpj, hsoj, hrj, hgj⟩ := hrel
                        clear hrm hgm hpm hsm
                        have hsj : dj.size = d.size := hpj.1
                        obtain ⟨J, HJ, hcj⟩ := hrj.named
                        rw [hsj] at hcj
                        have hfz := hrj.frozen
                        by_cases hj1 : j < b
                        · have c1 := hcj j (by omega)
                          have c2 := hcj (j - 1) (by omega)
                          cases hl : ltInt (J j) (J (j - 1))
                          · go_upto_region 22 with fail
                            go_quiet ((go_at_call 25; exact Calls.quiet_of_same (less_any _ _ _)))
                            go_wp2_with fail
                            go_roundw
                            case rel => exact ⟨i2, s + 1, dj, rfl, by go_num, by omega, ⟨hai, hib, hpj, hsoj⟩, hrj.drewN _, keep_drewN hgj _⟩
                            case measure => simp [intOf]; omega
                          · go_upto_region 22 with fail
                            go_quiet ((go_at_call 25; exact Calls.quiet_of_same (less_any _ _ _)))
                            go_wp2_with fail
                            go_region
                            all_goals go_wp2_with fail
                            go_roundw
                            case rel =>
                              refine ⟨j + 1, swp dj j (j - 1), by go_num, by omega, by omega, ?_, ?_, ?_, ?_⟩
                              · exact Sort.permIn_trans _ _ _ _ _ hpj (Sort.swp_permIn _ _ _ _ _ (by omega) (by omega) (by omega) (by omega) (by omega))
                              · exact hsoj.congrA fun p hp => Sort.swp_other _ _ _ _ (by omega) (by omega)
                              · have := (hrj.drewN (nq + 1)).swap j (j - 1)
                                rw [HJ.out, HJ.out]; exact this
                              · exact keep_drewN (keep_set (keep_set hgj _ _) _ _) (nq + 1)
                            case measure => simp [intOf]; omega
                        · go_wp2_with fail
                          go_roundw
                          case rel => exact ⟨i2, s + 1, dj, rfl, by go_num, by omega, ⟨hai, hib, hpj, hsoj⟩, hrj, hgj⟩
                          case measure => simp [intOf]; omega
          · have hle : i2 < b ∧ ltInt dk[i2]! dk[i2 - 1]! = false := by
              have := HON.out
              rw [← HG.out, ← HG.out]
              by_cases e : i2 < b
              · rw [decide_eq_true e, Bool.true_and] at this
                exact ⟨e, by simpa using this.symm⟩
              · rw [decide_eq_false e] at this; cases this
            have hup := hq2.up hle.1 hle.2
            obtain ⟨hle1, _⟩ := hle
            go_wp2_with fail
            go_roundw
            case rel => exact ⟨i2 + 1, by go_num, hup, hrc, hgc⟩
            case measure => simp [intOf]; omega
    · go_wp2_with fail
      go_ret
      exact ⟨hgk, false, dk, rfl, hrk, hq.perm, fun h => by cases h⟩
end Go.Proofs.Qxb6601455a
