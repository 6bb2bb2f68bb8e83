import Derived.Test.Qxb6601455aPdqP
namespace Go.Proofs.Qxb6601455a
open Go.ChangeShapes Go.WideShapes Go.ChangeAt Go.RowKit
open Go.Sort (swp ltInt PermIn SortedIn swo_ltInt)
set_option linter.unusedVariables false

/-- The sort of a part of no more than n elements. -/
def PdqAt (g cap n : Nat) : Prop := ∀ (a0 b0 lim0 : Nat) (d : Array Int) (w : World), b0 - a0 ≤ n → RowA w g d → a0 ≤ b0 → b0 ≤ d.size → d.size ≤ 1000000 → lim0 ≤ 1000 → Sort.Below ltInt a0 b0 d →
    Calls Try.prog 17 #[.slice (some ⟨g, 0, none⟩) d.size cap, .int .i64 a0, .int .i64 b0, .int .i64 lim0] w fun e w' => e = .returned (.tuple #[]) ∧ w.grownBy w' (some g) ∧ ∃ d', RowA w' g d' ∧ PermIn a0 b0 d d' ∧ SortedIn ltInt a0 b0 d'

set_option maxRecDepth 100000 in
set_option maxHeartbeats 16000000 in
theorem pdq_step (g cap n : Nat) (ih : ∀ m, m < n → PdqAt g cap m) : PdqAt g cap n := by
  intro a0 b0 lim0 d w hn hr hab hb hsz hlim hB
  go_enter Try.func17, Try.ntmps17
  go_wp2_with fail
  go_loopw [1, 2, 3, 8, 9] (fun va vb vl vwb vwp wr => ∃ (a b lim : Nat) (wb wp : Bool) (dk : Array Int), va = .int .i64 a ∧ vb = .int .i64 b ∧ vl = .int .i64 lim ∧ vwb = .bool wb ∧ vwp = .bool wp ∧ lim ≤ 1000 ∧ KInv d a0 b0 a b dk ∧ RowA wr g dk ∧ w.grownBy wr (some g)) (fun va vb _ _ _ _ => (intOf vb).toNat - (intOf va).toNat)
  case atStart => exact ⟨a0, b0, lim0, true, true, d, rfl, rfl, rfl, rfl, rfl, hlim, KInv.start hab hB, hr, keep_refl _ _⟩
  case round =>
    obtain ⟨a, b, lim, wb, wp, dk, rfl, rfl, rfl, rfl, rfl, hlim2, hK, hrk, hgk⟩ := hrel
    clear hr
    have hlo := hK.lo
    have hle := hK.le
    have hhi := hK.hi
    have hszk := hK.size
    obtain ⟨l, hl⟩ : ∃ l : Nat, (b : Int) - a = l := ⟨b - a, by omega⟩
    by_cases h12 : l ≤ 12
    · have c := ins_any g cap a b dk _ hrk hle (by omega) (by omega)
      rw [hszk] at c
      go_wp2_with fail
      go_at_call 19
      refine c.mono ?_
      rintro e w1 ⟨rfl, k1, d1, hr1, hp1, hs1⟩
      obtain ⟨hp, hs⟩ := hK.done d1 hp1 hs1
      go_wp2_with fail
      refine bodyPost_ret (results_none rfl _ _ _) rfl ?_
      exact ⟨rfl, keep_trans hgk k1, d1, hr1, hp, hs⟩
    · by_cases hl0 : lim = 0
      · subst hl0
        have c := heap_any g cap a b dk _ hrk (by omega) (by omega) (by omega)
        rw [hszk] at c
        go_wp2_with fail
        go_at_call 20
        refine c.mono ?_
        rintro e w1 ⟨rfl, k1, d1, hr1, hp1, hs1⟩
        obtain ⟨hp, hs⟩ := hK.done d1 hp1 hs1
        go_wp2_with fail
        refine bodyPost_ret (results_none rfl _ _ _) rfl ?_
        exact ⟨rfl, keep_trans hgk k1, d1, hr1, hp, hs⟩
      · have hl0' : ((lim : Int) == 0) = false := by simp; omega
        go_upto_if 35 with fail
        go_cut [3] (fun vl wx => ∃ (lim : Nat) (dk : Array Int), vl = .int .i64 lim ∧ lim ≤ 1000 ∧ KInv d a0 b0 a b dk ∧ RowA wx g dk ∧ w.grownBy wx (some g))
        case first =>
          cases wb
          · have c := break_any g cap a b dk _ hrk (by omega) (by omega) (by omega)
            rw [hszk] at c
            go_wp2_with fail
            go_at_call 21
            refine c.mono ?_
            rintro e w1 ⟨rfl, k1, d1, hr1, hp1⟩
            have hK1 := hK.perm hb hp1
            obtain ⟨lim1, hlm⟩ : ∃ lim1 : Nat, (lim : Int) - 1 = lim1 := ⟨lim - 1, by omega⟩
            go_wp2_with fail
            go_meet
            case rel => exact ⟨lim1, d1, rfl, by omega, hK1, hr1, keep_trans hgk k1⟩
          · go_wp2_with fail
            go_meet
            case rel => exact ⟨lim, dk, rfl, hlim2, hK, hrk, hgk⟩
        case rest =>
          obtain ⟨lim1, d1, rfl, hlim3, hK1, hr1, hg1⟩ := hcut
          clear hrk hgk hK hl0' hl0
          have hsz1 := hK1.size
          have c := pivot_any g cap a b d1 _ hr1 (by omega) (by omega) (by omega)
          rw [hsz1] at c
          go_wp2_with fail
          go_at_call 22
          refine c.mono ?_
          rintro e w2 ⟨p2, h2, rfl, hh2, hap2, hpb2, hbel⟩
          have hr2 := hr1.below hbel hr1.lt
          have hg2 := keep_below hg1 hbel
          clear hr1 hg1 c
          go_upto_if 50 with fail
          go_cut [11, 12] (fun vp vh wx => ∃ (p h : Nat) (dk : Array Int), vp = .int .i64 p ∧ vh = .int .i64 h ∧ a ≤ p ∧ p < b ∧ KInv d a0 b0 a b dk ∧ RowA wx g dk ∧ w.grownBy wx (some g))
          case first =>
            by_cases hh : h2 = 2
            · subst hh
              have c := reverse_any g cap a b d1 _ hr2 (by omega) (by omega) (by omega)
              rw [hsz1] at c
              go_wp2_with fail
              go_at_call 23
              refine c.mono ?_
              rintro e w3 ⟨rfl, k3, d3, hr3, hp3⟩
              have hK3 := hK1.perm hb hp3
              obtain ⟨p3, hpp⟩ : ∃ p3 : Nat, (b : Int) - 1 - ((p2 : Int) - a) = p3 := ⟨b - 1 - (p2 - a), by omega⟩
              go_wp2_with fail
              go_meet
              case rel => exact ⟨p3, 1, d3, rfl, rfl, by omega, by omega, hK3, hr3, keep_trans hg2 k3⟩
            · have hh' : ((h2 : Int) == 2) = false := by simp; omega
              go_wp2_with fail
              go_meet
              case rel => exact ⟨p2, h2, d1, rfl, rfl, hap2, hpb2, hK1, hr2, hg2⟩
          case rest =>
            obtain ⟨p3, h3, d3, rfl, rfl, hap3, hpb3, hK3, hr3, hg3⟩ := hcut
            clear hr2 hg2 hK1 hap2 hpb2 hbel
            have hsz3 := hK3.size
            go_upto_region 15 with fail
            go_cut [68] (fun vc wx => ∃ c : Bool, vc = .bool c ∧ RowA wx g d3 ∧ w.grownBy wx (some g))
            case first =>
              cases wb
              · go_wp2_with fail
                go_meet
                case rel => exact ⟨false, rfl, hr3, hg3⟩
              · cases wp
                · go_wp2_with fail
                  go_meet
                  case rel => exact ⟨false, rfl, hr3, hg3⟩
                · go_wp2_with fail
                  go_meet
                  case rel => exact ⟨_, rfl, hr3, hg3⟩
            case rest =>
              obtain ⟨cc, rfl, hr4, hg4⟩ := hcut
              clear hr3 hg3
              go_upto_if 68 with fail
              go_cut [] (fun wx => ∃ dk : Array Int, KInv d a0 b0 a b dk ∧ RowA wx g dk ∧ w.grownBy wx (some g))
              case first =>
                cases cc
                · go_wp2_with fail
                  go_meet
                  case rel => exact ⟨d3, hK3, hr4, hg4⟩
                · have c := partial_any g cap a b d3 _ hr4 (by omega) (by omega) (by omega) hK3.below
                  rw [hsz3] at c
                  go_wp2_with fail
                  go_at_call 24
                  refine c.mono ?_
                  rintro e w5 ⟨k5, r5, d5, rfl, hr5, hp5, hs5⟩
                  cases r5
                  · have hK5 := hK3.perm hb hp5
                    go_wp2_with fail
                    go_meet
                    case rel => exact ⟨d5, hK5, hr5, keep_trans hg4 k5⟩
                  · obtain ⟨hp, hs⟩ := hK3.done d5 hp5 (hs5 rfl)
                    go_wp2_with fail
                    refine bodyPost_ret (results_none rfl _ _ _) rfl ?_
                    exact ⟨rfl, keep_trans hg4 k5, d5, hr5, hp, hs⟩
              case rest =>
                obtain ⟨d5, hK5, hr5, hg5⟩ := hcut
                clear hr4 hg4 hK3 hsz3 hsz1 hszk
                have hsz5 := hK5.size
                obtain ⟨G, HG, hc⟩ := hr5.named
                rw [hsz5] at hc
                obtain ⟨on, hon⟩ : ∃ on : Bool, on = (decide (0 < a) && !ltInt (G (a - 1)) (G p3)) := ⟨_, rfl⟩
                have HON : Hid _ := hon
                clear hon
                go_upto_region 17 with fail
                go_cut [87] (fun cv wx => cv = .bool on ∧ RowA wx g d5 ∧ w.grownBy wx (some g))
                case first =>
                  by_cases ha : 0 < a
                  · have c1 := hc (a - 1) (by omega)
                    have c2 := hc p3 (by omega)
                    have HT : Hid (on = !ltInt (G (a - 1)) (G p3)) := by
                      show _ = _
                      rw [HON.out, decide_eq_true ha]; rfl
                    go_quiet ((go_at_call 25; exact Calls.quiet_of_same (less_any _ _ _)))
                    go_wp2_with fail
                    go_meet
                    case rel => exact ⟨by rw [HT.out], hr5.drewN _, keep_drewN hg5 _⟩
                  · have hd : decide ((0 : Int) < (a : Int)) = false := decide_eq_false (by omega)
                    have HT : Hid (on = false) := by
                      show _ = _
                      rw [HON.out, decide_eq_false ha]; rfl
                    go_quiet (fail)
                    go_wp2_with fail
                    go_meet
                    case rel => exact ⟨by rw [HT.out], hr5.drewN _, keep_drewN hg5 _⟩
                case rest =>
                  obtain ⟨rfl, hr6, hg6⟩ := hcut
                  clear hr5 hg5 hc
                  cases on
                  · have c := part_any g cap a b p3 d5 _ hr6 hap3 hpb3 (by omega) (by omega)
                    rw [hsz5] at c
                    go_wp2_with fail
                    go_at_call 27
                    refine c.mono ?_
                    rintro e w7 ⟨k7, mid, ap, d7, rfl, hr7, hm1, hm2, hp7, hlo7, hhi7⟩
                    have hK7 := hK5.perm hb hp7
                    have hg7 := keep_trans hg6 k7
                    have hsz7 := hK7.size
                    clear c hr6 hg6 k7
                    obtain ⟨ll, hll⟩ : ∃ ll : Nat, (mid : Int) - a = ll := ⟨mid - a, by omega⟩
                    obtain ⟨rl, hrl⟩ : ∃ rl : Nat, (b : Int) - mid = rl := ⟨b - mid, by omega⟩
                    obtain ⟨l8, hl8⟩ : ∃ l8 : Nat, (l : Int) / 8 = l8 := ⟨l / 8, by omega⟩
                    obtain ⟨m1, hm⟩ : ∃ m1 : Nat, (mid : Int) + 1 = m1 := ⟨mid + 1, by omega⟩
                    have hmm : Hid (m1 = mid + 1) := by show _ = _; omega
                    by_cases hlr : ll < rl
                    · have c := ih (mid - a) (by omega) a mid lim1 d7 _ (Nat.le_refl _) hr7 hm1 (by omega) (by omega) hlim3 (hK7.below.mono (by omega))
                      rw [hsz7] at c
                      go_wp2_with fail
                      go_at_call 17
                      refine c.mono ?_
                      rintro e w8 ⟨rfl, k8, d8, hr8, hp8, hs8⟩
                      have hK8 := hK7.left hb hm1 hm2 hlo7 hhi7 hp8 hs8
                      go_wp2_with fail
                      go_roundw
                      case rel => exact ⟨mid + 1, b, lim1, _, ap, d8, by rw [← hmm.out], rfl, rfl, rfl, rfl, hlim3, hK8, hr8, keep_trans hg7 k8⟩
                      case measure => simp [intOf]; omega
                    · have hBr : Sort.Below ltInt (mid + 1) b d7 := .inr fun i i1 i2 => hhi7 i (by omega) i2
                      have c := ih (b - (mid + 1)) (by omega) (mid + 1) b lim1 d7 _ (Nat.le_refl _) hr7 (by omega) (by omega) (by omega) hlim3 hBr
                      rw [hsz7, ← hmm.out] at c
                      go_wp2_with fail
                      go_at_call 17
                      refine c.mono ?_
                      rintro e w8 ⟨rfl, k8, d8, hr8, hp8, hs8⟩
                      rw [hmm.out] at hp8 hs8
                      have hK8 := hK7.right hb hm1 hm2 hlo7 hhi7 hp8 hs8
                      go_wp2_with fail
                      go_roundw
                      case rel => exact ⟨a, mid, lim1, _, ap, d8, rfl, rfl, rfl, rfl, rfl, hlim3, hK8, hr8, keep_trans hg7 k8⟩
                      case measure => simp [intOf]; omega
                  · have hon : 0 < a ∧ ltInt d5[a - 1]! d5[p3]! = false := by
                      have := HON.out
                      rw [← HG.out, ← HG.out]
                      by_cases e : 0 < a
                      · rw [decide_eq_true e, Bool.true_and] at this
                        exact ⟨e, by simpa using this.symm⟩
                      · rw [decide_eq_false e] at this; cases this
                    obtain ⟨hon1, hon2⟩ := hon
                    have HO2 : Hid _ := hon2
                    clear hon2
                    have c := partEq_any g cap a b p3 d5 _ hr6 hap3 hpb3 (by omega) (by omega)
                    rw [hsz5] at c
                    go_wp2_with fail
                    go_at_call 26
                    refine c.mono ?_
                    rintro e w7 ⟨k7, mid, d7, rfl, hr7, hm1, hm2, hp7, hlo7, hhi7⟩
                    have hK7 := hK5.eq hb hon1 hap3 hpb3 HO2.out hp7 hm1 hm2 hlo7 hhi7
                    go_wp2_with fail
                    go_roundw
                    case rel => exact ⟨mid, b, lim1, wb, wp, d7, rfl, rfl, rfl, rfl, rfl, hlim3, hK7, hr7, keep_trans hg6 k7⟩
                    case measure => simp [intOf]; omega

theorem pdq_any (g cap n : Nat) : PdqAt g cap n := by
  induction n using Nat.strongRecOn with
  | ind n ih => exact pdq_step g cap n ih
end Go.Proofs.Qxb6601455a
