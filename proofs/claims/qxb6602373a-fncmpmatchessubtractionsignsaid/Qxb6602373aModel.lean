import Derived.Test.Qxb6602373aSub
import Derived.Test.Qxb6602373aCmp
namespace Go.Proofs.Qxb6602373a
open Go.ChangeShapes Go.WideShapes Go.ChangeAt Go.RowKit
set_option linter.unusedVariables false

theorem borV_bd (x y c : Int) : 0 ≤ borV x y c ∧ borV x y c ≤ 1 := by unfold borV; split <;> omega
theorem difV_bd (x y c : Int) : 0 ≤ difV x y c ∧ difV x y c ≤ 18446744073709551615 := by unfold difV; omega

theorem or_zero_iff (a b : Int) (h1 : 0 ≤ a) (h2 : a ≤ 18446744073709551615) (h3 : 0 ≤ b) (h4 : b ≤ 18446744073709551615) : (bits .or .u64 a b == 0) = (a == 0 && b == 0) := by
  rw [u64_or a b h1 (by omega) h3 (by omega), Bool.eq_iff_iff]
  simp
  omega

set_option maxHeartbeats 1000000 in
theorem model_any (ah al bh bl : Int) (w : World) (a0 : 0 ≤ ah) (a1 : ah ≤ 18446744073709551615) (b0 : 0 ≤ al) (b1 : al ≤ 18446744073709551615) (c0 : 0 ≤ bh) (c1 : bh ≤ 18446744073709551615) (d0 : 0 ≤ bl) (d1 : bl ≤ 18446744073709551615) :
    Calls Try.prog 8 #[.int .u64 ah, .int .u64 al, .int .u64 bh, .int .u64 bl] w fun e w' => e = .returned (.int .i64 (cmpV ah al bh bl)) ∧ w' = w := by
  have e1 := borV_bd al bl 0
  have e2 := borV_bd ah bh (borV al bl 0)
  have e3 := difV_bd al bl 0
  have e4 := difV_bd ah bh (borV al bl 0)
  have e5 := or_zero_iff _ _ e3.1 e3.2 e4.1 e4.2
  have key : (borV ah bh (borV al bl 0) = 1 ∧ cmpV ah al bh bl = -1) ∨ (borV ah bh (borV al bl 0) = 0 ∧ difV al bl 0 = 0 ∧ difV ah bh (borV al bl 0) = 0 ∧ cmpV ah al bh bl = 0) ∨ (borV ah bh (borV al bl 0) = 0 ∧ (¬ difV al bl 0 = 0 ∨ ¬ difV ah bh (borV al bl 0) = 0) ∧ cmpV ah al bh bl = 1) := by
    unfold borV cmpV difV
    repeat' split
    all_goals omega
  obtain ⟨f1, f2⟩ := e1
  clear e2 e3 e4
  rcases key with ⟨k1, k2⟩ | ⟨k1, k2, k3, k4⟩ | ⟨k1, h, k4⟩
  · have hb : (borV ah bh (borV al bl 0) == 1) = true := by rw [k1]; rfl
    rw [k2]
    clear e5 k1 k2
    go_enter Try.func8, Try.ntmps8
    go_wp2_with (go_at_call 9; refine (sub_any _ _ _ _ (by first | assumption | omega) (by first | assumption | omega) (by first | assumption | omega) (by first | assumption | omega) (by first | assumption | omega) (by first | assumption | omega)).mono ?_; rintro e w' ⟨rfl, hw⟩; obtain rfl := hw.symm)
    go_ret
    exact ⟨rfl, rfl⟩
  · have hb : (borV ah bh (borV al bl 0) == 1) = false := by rw [k1]; rfl
    have hz : (bits .or .u64 (difV al bl 0) (difV ah bh (borV al bl 0)) == 0) = true := by rw [e5, k2, k3]; rfl
    rw [k4]
    clear e5 k1 k2 k3 k4
    go_enter Try.func8, Try.ntmps8
    go_wp2_with (go_at_call 9; refine (sub_any _ _ _ _ (by first | assumption | omega) (by first | assumption | omega) (by first | assumption | omega) (by first | assumption | omega) (by first | assumption | omega) (by first | assumption | omega)).mono ?_; rintro e w' ⟨rfl, hw⟩; obtain rfl := hw.symm)
    go_ret
    exact ⟨rfl, rfl⟩
  · have hb : (borV ah bh (borV al bl 0) == 1) = false := by rw [k1]; rfl
    have hz : (bits .or .u64 (difV al bl 0) (difV ah bh (borV al bl 0)) == 0) = false := by
      rw [e5, Bool.and_eq_false_iff]
      rcases h with h | h
      · exact .inl (by simpa using h)
      · exact .inr (by simpa using h)
    rw [k4]
    clear e5 h k1 k4
    go_enter Try.func8, Try.ntmps8
    go_wp2_with (go_at_call 9; refine (sub_any _ _ _ _ (by first | assumption | omega) (by first | assumption | omega) (by first | assumption | omega) (by first | assumption | omega) (by first | assumption | omega) (by first | assumption | omega)).mono ?_; rintro e w' ⟨rfl, hw⟩; obtain rfl := hw.symm)
    go_ret
    exact ⟨rfl, rfl⟩
end Go.Proofs.Qxb6602373a
