import Derived.Test.Qxb6601559aPlace
namespace Go.Proofs.Qxb6601559a
open Go.ChangeShapes Go.WideShapes Go.ChangeAt Go.RowKit
set_option linter.unusedVariables false

theorem place_big (s : ByteArray) (w : World) (hm : s.size ≤ maxLen) (hs : ¬ s.size ≤ 1048576) :
    Calls Try.prog 3 #[.string s] w fun e w' => e = .returned (.bool true) ∧ w' = w := by
  go_enter Try.func3, Try.ntmps3
  go_wp2_with (go_at_call 7; refine (bytes_no _ _ hs hm).mono ?_; rintro e w' ⟨rfl, rfl⟩)
  go_ret
  exact ⟨rfl, rfl⟩

set_option maxHeartbeats 400000 in
theorem place_empty (s : ByteArray) (w : World) (hm : s.size = 0) :
    Calls Try.prog 3 #[.string s] w fun e w' => e = .returned (.bool true) ∧ w' = w := by
  have HM : Hid (s.size ≤ maxLen) := by show s.size ≤ maxLen; unfold maxLen; omega
  have H7 : Hid (s.size ≤ 1048576) := by show s.size ≤ 1048576; omega
  have e1 : numV s.data.toList = 0 := by unfold numV; rw [if_neg (by simp; omega)]
  have e2 : numOk s.data.toList = false := by unfold numOk; simp; omega
  have E1 : Hid (numV s.data.toList = 0) := e1
  have E2 : Hid (numOk s.data.toList = false) := e2
  clear e1 e2
  go_enter Try.func3, Try.ntmps3
  go_wp2_with (first | (go_at_call 7; refine (bytes_yes _ _ H7.out).mono ?_; rintro e w' ⟨rfl, rfl⟩))
  refine wp_loop_rounds 1 ?_
  rw [rounds_succ]
  go_wp2_with (first | (go_at_call 9; refine (zznumber_any _ _ HM.out).mono ?_; rw [E1.out, E2.out]; rintro e w' ⟨rfl, rfl⟩))
  go_ret
  exact ⟨rfl, rfl⟩

set_option maxHeartbeats 1000000 in
theorem place_some (s : ByteArray) (w : World) (h0 : 0 < s.size) (hs : s.size ≤ 1048576) :
    Calls Try.prog 3 #[.string s] w fun e w' => e = .returned (.bool true) ∧ w' = w := by
  have HM : Hid (s.size ≤ maxLen) := by show s.size ≤ maxLen; unfold maxLen; omega
  have H7 : Hid (s.size ≤ 1048576) := hs
  have hl : s.data.toList.length = s.size := by simp
  have HL : Hid (s.data.toList.length = s.size) := hl
  clear hl
  go_enter Try.func3, Try.ntmps3
  go_wp2_with (first | (go_at_call 7; refine (bytes_yes _ _ H7.out).mono ?_; rintro e w' ⟨rfl, rfl⟩))
  go_loop [3, 4, 5, 6] (fun ok v p i => ∃ z : Int, -1 ≤ z ∧ z < s.size ∧ i = .int .i64 z ∧ ok = .bool true ∧ allB (s.data.toList.drop (z + 1).toNat) = true ∧
      v = .int .i64 (wrap64 (decVal (s.data.toList.drop (z + 1).toNat))) ∧ p = .int .i64 (wrap64 (10 ^ (s.size - (z + 1).toNat)))) (fun _ _ _ i => (intOf i + 1).toNat)
  case atStart =>
    have e : ((s.size : Int) - 1 + 1).toNat = s.size := by omega
    refine ⟨(s.size : Int) - 1, by omega, by omega, rfl, by simp, ?_, ?_, ?_⟩
    · rw [e, List.drop_of_length_le (by rw [HL.out]; omega)]; rfl
    · rw [e, List.drop_of_length_le (by rw [HL.out]; omega)]; simp [decVal, wrap64]
    · rw [e, Nat.sub_self]; simp [wrap64]
  case round =>
    obtain ⟨z, hz1, hz2, rfl, rfl, hall, rfl, rfl⟩ := hrel
    have HA : Hid (allB (s.data.toList.drop (z + 1).toNat) = true) := hall
    clear hall
    by_cases hz : 0 ≤ z
    · obtain ⟨j, rfl⟩ := Int.eq_ofNat_of_zero_le hz
      have ej : ((j : Int) + 1).toNat = j + 1 := by omega
      have hj : j < s.size := by omega
      rw [ej] at HA ⊢
      have HD := allB_drop s j hj
      cases hd : digB s[j].toNat
      · -- not a digit: out of the loop
        have hno : (s[j].toNat : Int) < 48 ∨ 57 < (s[j].toNat : Int) := by
          simp only [digB, decide_eq_false_iff_not] at hd; omega
        have ha : allB s.data.toList = false := allB_false_of s j hj hd
        have e1 : numV s.data.toList = 0 := by unfold numV; rw [if_neg (by simp [ha])]
        have e2 : numOk s.data.toList = false := by unfold numOk; rw [ha]; simp
        have E1 : Hid (numV s.data.toList = 0) := e1
        have E2 : Hid (numOk s.data.toList = false) := e2
        clear e1 e2 ha HD hd
        generalize decVal (s.data.toList.drop (j + 1)) = V
        generalize (10 : Int) ^ (s.size - (j + 1)) = P
        go_wp2_with (first | (go_at_call 8; refine (digitValue_no _ _ hno).mono ?_; rintro e w' ⟨rfl, rfl⟩) | (go_at_call 9; refine (zznumber_any _ _ HM.out).mono ?_; rw [E1.out, E2.out]; rintro e w' ⟨rfl, rfl⟩))
        go_ret
        exact ⟨rfl, rfl⟩
      · obtain ⟨d1, d2⟩ : 48 ≤ (s[j].toNat : Int) ∧ (s[j].toNat : Int) ≤ 57 := by simpa [digB] using hd
        rw [hd, HA.out] at HD
        have HD' : Hid (allB (s.data.toList.drop j) = true) := HD
        have HV : Hid (decVal (s.data.toList.drop j) = ((s[j].toNat : Int) - 48) * 10 ^ (s.size - (j + 1)) + decVal (s.data.toList.drop (j + 1))) := by
          show _ = _
          rw [drop_cons s j hj, decVal_cons, List.length_drop, HL.out]
        have HP : Hid ((10 : Int) ^ (s.size - j) = 10 ^ (s.size - (j + 1)) * 10) := by
          show _ = _
          rw [← Int.pow_succ]; congr 1; omega
        clear HD hd
        generalize decVal (s.data.toList.drop (j + 1)) = V at HV ⊢
        generalize (10 : Int) ^ (s.size - (j + 1)) = P at HV HP ⊢
        go_wp2_with (first | (go_at_call 8; refine (digitValue_yes _ _ d1 d2).mono ?_; rintro e w' ⟨rfl, rfl⟩))
        go_round
        case rel =>
          have e : ((j : Int) - 1 + 1).toNat = j := by omega
          refine ⟨(j : Int) - 1, by omega, by omega, rfl, rfl, ?_, ?_, ?_⟩
          · rw [e]; exact HD'.out
          · rw [e, HV.out, ← place_step]
          · rw [e, HP.out]; exact congrArg _ (ten_step P)
        case measure => simp [intOf]
    · have ez : z = -1 := by omega
      subst ez
      have e0 : ((-1 : Int) + 1).toNat = 0 := rfl
      rw [e0, List.drop_zero] at HA ⊢
      have e1 : numV s.data.toList = wrap64 (decVal s.data.toList) := by unfold numV; rw [if_pos ⟨by rw [HL.out]; omega, HA.out⟩]
      have e2 : numOk s.data.toList = true := by unfold numOk; rw [HA.out, HL.out]; simp; omega
      have E1 : Hid (numV s.data.toList = wrap64 (decVal s.data.toList)) := e1
      have E2 : Hid (numOk s.data.toList = true) := e2
      clear e1 e2
      generalize wrap64 (decVal s.data.toList) = V at E1 ⊢
      generalize (10 : Int) ^ (s.size - 0) = P
      go_wp2_with (first | (go_at_call 9; refine (zznumber_any _ _ HM.out).mono ?_; rw [E1.out, E2.out]; rintro e w' ⟨rfl, rfl⟩))
      go_ret
      exact ⟨rfl, rfl⟩
end Go.Proofs.Qxb6601559a
