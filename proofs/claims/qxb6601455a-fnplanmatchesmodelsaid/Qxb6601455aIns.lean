import Derived.Test.Qxb6601455aRow
namespace Go.Proofs.Qxb6601455a
open Go.ChangeShapes Go.WideShapes Go.ChangeAt Go.RowKit
open Go.Sort (swp ltInt PermIn SortedIn Ins swo_ltInt)
set_option linter.unusedVariables false

/-- The row's contents under a name of their own. -/
theorem RowA.named {w : World} {g : Nat} {d : Array Int} (h : RowA w g d) : ∃ G : Nat → Int, Hid (∀ t, G t = d[t]!) ∧ ∀ t, t < d.size → w.cell? ⟨g, t, none⟩ = some (.int .i32 (G t)) :=
  ⟨fun t => d[t]!, fun _ => rfl, fun t ht => h.cell t ht⟩

set_option maxRecDepth 100000 in
set_option maxHeartbeats 4000000 in
theorem ins_any (g cap a b : Nat) (d : Array Int) (w : World) (hr : RowA w g d) (hab : a ≤ b) (hb : b ≤ d.size) (hsz : d.size ≤ 1000000) :
    Calls Try.prog 19 #[.slice (some ⟨g, 0, none⟩) d.size cap, .int .i64 a, .int .i64 b] w fun e w' => e = .returned (.tuple #[]) ∧ w.grownBy w' (some g) ∧ ∃ d', RowA w' g d' ∧ PermIn a b d d' ∧ SortedIn ltInt a b d' := by
  go_enter Try.func19, Try.ntmps19
  go_wp2
  go_loopw [6] (fun vi wr => ∃ (i : Nat) (dk : Array Int), vi = .int .i64 i ∧ a < i ∧ i ≤ b + 1 ∧ RowA wr g dk ∧ w.grownBy wr (some g) ∧ PermIn a b d dk ∧ SortedIn ltInt a (min i b) dk) (fun vi _ => b + 1 - (intOf vi).toNat)
  case atStart => exact ⟨a + 1, d, by go_num, by omega, by omega, hr, keep_refl _ _, Sort.permIn_refl _ _ _, fun p q h1 h2 h3 => by omega⟩
  case round =>
    obtain ⟨i, dk, rfl, hai, hib, hrk, hgk, hpk, hsk⟩ := hrel
    clear hr
    by_cases hlt : i < b
    · rw [Nat.min_eq_left (by omega)] at hsk
      go_wp2_with fail
      go_loopw [7] (fun vj wr => ∃ (j : Nat) (dj : Array Int), vj = .int .i64 j ∧ a ≤ j ∧ j ≤ i ∧ RowA wr g dj ∧ w.grownBy wr (some g) ∧ PermIn a b d dj ∧ Ins ltInt a j i dj) (fun vj _ => (intOf vj).toNat)
      case atStart => exact ⟨i, dk, rfl, by omega, Nat.le_refl _, hrk, hgk, hpk, ⟨fun p q h1 h2 h3 h4 h5 => hsk p q h1 h2 (by omega), fun q h1 h2 => by omega⟩⟩
      case round =>
        obtain ⟨j, dj, rfl, haj, hji, hrj, hgj, hpj, hins⟩ := hrel
        clear hrk hgk hpk hsk
        have hsj : dj.size = d.size := hpj.1
        obtain ⟨G, HG, hc⟩ := hrj.named
        rw [hsj] at hc
        have hfz := hrj.frozen
        by_cases hja : a < j
        · have c1 := hc j (by omega)
          have c2 := hc (j - 1) (by omega)
          cases hl : ltInt (G j) (G (j - 1))
          · have OUT : Hid (SortedIn ltInt a (i + 1) dj) := hins.stop swo_ltInt (.inr (by rw [← HG.out, ← HG.out]; exact hl))
            clear hins
            go_upto_region 4 with fail
            go_quiet ((go_at_call 25; exact Calls.quiet_of_same (less_any _ _ _)))
            go_wp2_with fail
            go_roundw
            case rel => exact ⟨i + 1, dj, by go_num, by omega, by omega, hrj.drewN _, keep_drewN hgj _, hpj, by rw [Nat.min_eq_left (by omega)]; exact OUT.out⟩
            case measure => simp [intOf]; omega
          · have hst : Hid (Ins ltInt a (j - 1) i (swp dj j (j - 1))) := by
              obtain ⟨k, rfl⟩ : ∃ k, j = k + 1 := ⟨j - 1, by omega⟩
              exact hins.step (by have := hl; rw [HG.out, HG.out] at this; exact this) (by omega) (by omega)
            clear hins
            go_upto_region 4 with fail
            go_quiet ((go_at_call 25; exact Calls.quiet_of_same (less_any _ _ _)))
            go_wp2_with fail
            go_region
            all_goals go_wp2_with fail
            go_roundw
            case rel =>
              refine ⟨j - 1, swp dj j (j - 1), by congr 1; omega, by omega, by omega, ?_, ?_, ?_, hst.out⟩
              · have := (hrj.drewN (nq + 1)).swap j (j - 1)
                rw [HG.out, HG.out]; exact this
              · exact keep_drewN (keep_set (keep_set hgj _ _) _ _) (nq + 1)
              · exact Sort.permIn_trans _ _ _ _ _ hpj (Sort.swp_permIn _ _ _ _ _ (by omega) (by omega) (by omega) (by omega) (by omega))
            case measure => simp [intOf]; omega
        · have OUT : Hid (SortedIn ltInt a (i + 1) dj) := hins.stop swo_ltInt (.inl (by omega))
          have hd : decide ((a : Int) < (j : Int)) = false := decide_eq_false (by omega)
          clear hins
          go_upto_region 4 with fail
          go_quiet (fail)
          go_wp2_with fail
          go_roundw
          case rel => exact ⟨i + 1, dj, by go_num, by omega, by omega, hrj.drewN _, keep_drewN hgj _, hpj, by rw [Nat.min_eq_left (by omega)]; exact OUT.out⟩
          case measure => simp [intOf]; omega
    · rw [Nat.min_eq_right (by omega)] at hsk
      go_wp2_with fail
      go_end0
      exact ⟨rfl, hgk, dk, hrk, hpk, hsk⟩
end Go.Proofs.Qxb6601455a
