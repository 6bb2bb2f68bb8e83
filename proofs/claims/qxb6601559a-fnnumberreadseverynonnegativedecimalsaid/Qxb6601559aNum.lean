import Derived.Test.Qxb6601559aRows
import Derived.WalkKit
import Derived.ProofKit
import Derived.OpenShut
import Derived.ShutString
namespace Go.Proofs.Qxb6601559a
open Go.ChangeShapes Go.WideShapes Go.ChangeAt Go.RowKit
set_option linter.unusedVariables false

def digB (c : Int) : Bool := decide (48 ≤ c ∧ c ≤ 57)

theorem digB_yes {c : Int} (h1 : 48 ≤ c) (h2 : c ≤ 57) : digB c = true := by simp [digB, h1, h2]
theorem digB_no {c : Int} (h : ¬ (48 ≤ c ∧ c ≤ 57)) : digB c = false := by simp [digB]; omega

theorem isDigit_any (c : Int) (w : World) :
    Calls Try.prog 16 #[.int .u8 c] w fun e w' => e = .returned (.bool (digB c)) ∧ w' = w := by
  by_cases h1 : 48 ≤ c
  · by_cases h2 : c ≤ 57
    · rw [digB_yes h1 h2]
      go_enter Try.func16, Try.ntmps16
      go_wp2
      go_ret
      exact ⟨rfl, rfl⟩
    · rw [digB_no (by omega)]
      go_enter Try.func16, Try.ntmps16
      go_wp2
      go_ret
      exact ⟨rfl, rfl⟩
  · rw [digB_no (by omega)]
    go_enter Try.func16, Try.ntmps16
    go_wp2
    go_ret
    exact ⟨rfl, rfl⟩

def allB (l : List UInt8) : Bool := l.all fun c => digB c.toNat

theorem take_snoc (s : ByteArray) (k : Nat) (h : k < s.size) : s.data.toList.take (k + 1) = s.data.toList.take k ++ [s[k]] := by
  rw [List.take_succ_eq_append_getElem (by simpa using h)]; rfl

theorem allB_snoc (l : List UInt8) (c : UInt8) : allB (l ++ [c]) = (allB l && digB c.toNat) := by simp [allB]

theorem allB_false_of (s : ByteArray) (k : Nat) (h : k < s.size) (hd : digB s[k].toNat = false) : allB s.data.toList = false := by
  rw [allB, List.all_eq_false]
  refine ⟨s[k], ?_, by simp [hd]⟩
  have : s[k] = s.data.toList[k]'(by simpa using h) := rfl
  rw [this]; exact List.getElem_mem _

theorem ret_bool {a b : Bool} (h : a = b) : Ending.returned (.bool a) = .returned (.bool b) := by rw [h]

set_option maxHeartbeats 400000 in
theorem allDigits_any (s : ByteArray) (w : World) (hs : s.size ≤ maxLen) :
    Calls Try.prog 15 #[.string s] w fun e w' => e = .returned (.bool (allB s.data.toList)) ∧ w' = w := by
  unfold maxLen at hs
  go_enter Try.func15, Try.ntmps15
  go_wp2
  go_loop [3] (fun i => ∃ k : Nat, k ≤ s.size ∧ i = .int .i64 k ∧ allB (s.data.toList.take k) = true) (fun i => s.size - (intOf i).toNat)
  case atStart => exact ⟨0, Nat.zero_le _, rfl, rfl⟩
  case round =>
    obtain ⟨k, hk, rfl, hall⟩ := hrel
    have HA : Hid (allB (s.data.toList.take k) = true) := hall
    clear hall
    by_cases hlt : k < s.size
    · cases hd : digB s[k].toNat
      · have HF : Hid (allB s.data.toList = false) := allB_false_of s k hlt hd
        go_wp2_with (go_at_call 16; refine (isDigit_any _ _).mono ?_; rintro e w' ⟨rfl, rfl⟩)
        go_ret
        exact ⟨ret_bool HF.out.symm, rfl⟩
      · have HS : Hid (allB (s.data.toList.take (k + 1)) = true) := by
          show _ = _
          rw [take_snoc s k hlt, allB_snoc, HA.out, hd]; rfl
        go_wp2_with (go_at_call 16; refine (isDigit_any _ _).mono ?_; rintro e w' ⟨rfl, rfl⟩)
        go_round
        case rel => exact ⟨k + 1, by omega, by go_num, HS.out⟩
        case measure => simp [intOf]; omega
    · have HF : Hid (allB s.data.toList = true) := by
        have := HA.out; rwa [List.take_of_length_le (by simp; omega)] at this
      go_wp2
      go_ret
      exact ⟨ret_bool HF.out.symm, rfl⟩
end Go.Proofs.Qxb6601559a
