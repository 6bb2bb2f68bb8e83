import Derived.Test.Qxb6602373aModel
namespace Go.Proofs.Qxb6602373a
open Go.ChangeShapes Go.WideShapes Go.ChangeAt Go.RowKit
set_option linter.unusedVariables false

set_option maxHeartbeats 4000000 in
theorem sign_walk (ah al bh bl : Int) (w : World) (a0 : 0 ≤ ah) (a1 : ah ≤ 18446744073709551615) (b0 : 0 ≤ al) (b1 : al ≤ 18446744073709551615) (c0 : 0 ≤ bh) (c1 : bh ≤ 18446744073709551615) (d0 : 0 ≤ bl) (d1 : bl ≤ 18446744073709551615) :
    Calls Try.prog 3 #[.int .u64 ah, .int .u64 al, .int .u64 bh, .int .u64 bl] w fun e w' => e = .returned (.bool true) ∧ Grown w w' := by
  have HM := fun w => model_any ah al bh bl w a0 a1 b0 b1 c0 c1 d0 d1
  have HC := fun w => cmp_any ah al bh bl w
  generalize cmpV ah al bh bl = V at *
  go_enter Try.func3, Try.ntmps3
  go_wp2_with (first | (go_at_call 6; refine (make_any _ _ _).mono ?_; rintro e w' ⟨rfl, rfl⟩) | (go_at_call 7; refine (HC _).mono ?_; rintro e w' ⟨rfl, rfl⟩) | (go_at_call 8; refine (HM _).mono ?_; rintro e w' ⟨rfl, hw⟩; subst hw))
  go_ret
  exact ⟨by simp, by repeat (first | exact Grown.refl _ | apply Grown.drew | apply Grown.alloc)⟩
end Go.Proofs.Qxb6602373a
