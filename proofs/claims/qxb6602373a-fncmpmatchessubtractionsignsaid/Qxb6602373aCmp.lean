import Derived.Test.Qxb6602373aRows
import Derived.WalkKit
import Derived.ProofKit
import Derived.OpenShut
import Derived.ShutString
import Derived.Below
namespace Go.Proofs.Qxb6602373a
open Go.ChangeShapes Go.WideShapes Go.ChangeAt Go.RowKit
set_option linter.unusedVariables false

/-- What Cmp answers. -/
def cmpV (ah al bh bl : Int) : Int := if ah < bh then -1 else if bh < ah then 1 else if al < bl then -1 else if bl < al then 1 else 0

theorem make_any (hi lo : Int) (w : World) :
    Calls Try.prog 6 #[.int .u64 hi, .int .u64 lo] w fun e w' => e = .returned (.agg #[.int .u64 hi, .int .u64 lo]) ∧ w' = w.alloc (.cells #[.int .u64 hi, .int .u64 lo] 24) := by
  go_enter Try.func6, Try.ntmps6
  go_wp2
  exact bodyPost_ret (v := .agg #[.int .u64 hi, .int .u64 lo]) (by simp [results, Try.results6, go_sem]) rfl ⟨rfl, rfl⟩

theorem cmp_any (ah al bh bl : Int) (w : World) :
    Calls Try.prog 7 #[.agg #[.int .u64 ah, .int .u64 al], .agg #[.int .u64 bh, .int .u64 bl]] w fun e w' => e = .returned (.int .i64 (cmpV ah al bh bl)) ∧ w' = (w.alloc (.cells #[.int .u64 ah, .int .u64 al] 24)).alloc (.cells #[.int .u64 bh, .int .u64 bl] 24) := by
  unfold cmpV
  by_cases h1 : ah < bh
  · have hne : (ah != bh) = true := by simp; omega
    rw [if_pos h1]
    go_enter Try.func7, Try.ntmps7
    go_wp2
    go_ret
    exact ⟨rfl, rfl⟩
  · rw [if_neg h1]
    by_cases h2 : bh < ah
    · have hne : (ah != bh) = true := by simp; omega
      rw [if_pos h2]
      go_enter Try.func7, Try.ntmps7
      go_wp2
      go_ret
      exact ⟨rfl, rfl⟩
    · rw [if_neg h2]
      obtain rfl : ah = bh := by omega
      by_cases h3 : al < bl
      · have hne : (al != bl) = true := by simp; omega
        rw [if_pos h3]
        go_enter Try.func7, Try.ntmps7
        go_wp2
        go_ret
        exact ⟨rfl, rfl⟩
      · rw [if_neg h3]
        by_cases h4 : bl < al
        · have hne : (al != bl) = true := by simp; omega
          rw [if_pos h4]
          go_enter Try.func7, Try.ntmps7
          go_wp2
          go_ret
          exact ⟨rfl, rfl⟩
        · rw [if_neg h4]
          obtain rfl : al = bl := by omega
          go_enter Try.func7, Try.ntmps7
          go_wp2
          go_ret
          exact ⟨rfl, rfl⟩

theorem cmpV_anti (ah al bh bl : Int) : cmpV ah al bh bl = -cmpV bh bl ah al := by
  unfold cmpV; repeat' split
  all_goals omega
theorem cmpV_self (ah al : Int) : cmpV ah al ah al = 0 := by
  unfold cmpV; repeat' split
  all_goals omega
theorem cmpV_zero (ah al bh bl : Int) : (cmpV ah al bh bl == 0) = (ah == bh && al == bl) := by
  rw [Bool.eq_iff_iff]
  unfold cmpV
  simp
  repeat' split
  all_goals omega
theorem cmpV_bd (ah al bh bl : Int) : -1 ≤ cmpV ah al bh bl ∧ cmpV ah al bh bl ≤ 1 := by
  unfold cmpV; repeat' split
  all_goals omega

set_option maxHeartbeats 4000000 in
theorem anti_walk (ah al bh bl : Int) (w : World) :
    Calls Try.prog 4 #[.int .u64 ah, .int .u64 al, .int .u64 bh, .int .u64 bl] w fun e w' => e = .returned (.bool true) ∧ Grown w w' := by
  by_cases h1 : ah < bh
  · have hne : (ah != bh) = true := by simp; omega
    have hne2 : (bh != ah) = true := by simp; omega
    have heq : (ah == bh) = false := by simp; omega
    have hlt : ¬ bh < ah := by omega
    go_enter Try.func4, Try.ntmps4
    go_wp2_with (first | (go_at_call 6; refine (make_any _ _ _).mono ?_; rintro e w' ⟨rfl, rfl⟩) | go_in)
    go_ret
    exact ⟨rfl, by repeat (first | exact Grown.refl _ | apply Grown.drew | apply Grown.alloc)⟩
  · by_cases h2 : bh < ah
    · have hne : (ah != bh) = true := by simp; omega
      have hne2 : (bh != ah) = true := by simp; omega
      have heq : (ah == bh) = false := by simp; omega
      go_enter Try.func4, Try.ntmps4
      go_wp2_with (first | (go_at_call 6; refine (make_any _ _ _).mono ?_; rintro e w' ⟨rfl, rfl⟩) | go_in)
      go_ret
      exact ⟨rfl, by repeat (first | exact Grown.refl _ | apply Grown.drew | apply Grown.alloc)⟩
    · obtain rfl : ah = bh := by omega
      clear h1 h2
      by_cases h3 : al < bl
      · have hne : (al != bl) = true := by simp; omega
        have hne2 : (bl != al) = true := by simp; omega
        have heq : (al == bl) = false := by simp; omega
        have hlt : ¬ bl < al := by omega
        go_enter Try.func4, Try.ntmps4
        go_wp2_with (first | (go_at_call 6; refine (make_any _ _ _).mono ?_; rintro e w' ⟨rfl, rfl⟩) | go_in)
        go_ret
        exact ⟨rfl, by repeat (first | exact Grown.refl _ | apply Grown.drew | apply Grown.alloc)⟩
      · by_cases h4 : bl < al
        · have hne : (al != bl) = true := by simp; omega
          have hne2 : (bl != al) = true := by simp; omega
          have heq : (al == bl) = false := by simp; omega
          go_enter Try.func4, Try.ntmps4
          go_wp2_with (first | (go_at_call 6; refine (make_any _ _ _).mono ?_; rintro e w' ⟨rfl, rfl⟩) | go_in)
          go_ret
          exact ⟨rfl, by repeat (first | exact Grown.refl _ | apply Grown.drew | apply Grown.alloc)⟩
        · obtain rfl : al = bl := by omega
          clear h3 h4
          go_enter Try.func4, Try.ntmps4
          go_wp2_with (first | (go_at_call 6; refine (make_any _ _ _).mono ?_; rintro e w' ⟨rfl, rfl⟩) | go_in)
          go_ret
          exact ⟨rfl, by repeat (first | exact Grown.refl _ | apply Grown.drew | apply Grown.alloc)⟩
end Go.Proofs.Qxb6602373a
