import Derived.Test.Qxb6601559aNum
namespace Go.Proofs.Qxb6601559a
open Go.ChangeShapes Go.WideShapes Go.ChangeAt Go.RowKit
set_option linter.unusedVariables false

/-- The exact value of a list of digits. -/
def decVal (l : List UInt8) : Int := l.foldl (fun n c => n * 10 + ((c.toNat : Int) - 48)) 0

theorem decVal_snoc (l : List UInt8) (c : UInt8) : decVal (l ++ [c]) = decVal l * 10 + ((c.toNat : Int) - 48) := by simp [decVal]

theorem wrap_step (v d : Int) : wrap64 (wrap64 (wrap64 v * 10) + d) = wrap64 (v * 10 + d) := by
  unfold wrap64; omega

theorem ret_pair {k : IntKind} {a b : Int} {p : Bool} (h : a = b) : Ending.returned (.tuple #[.int k a, .bool p]) = .returned (.tuple #[.int k b, .bool p]) := by rw [h]

theorem digit_at (s : ByteArray) (k : Nat) (h : k < s.size) (ha : allB s.data.toList = true) : 48 ≤ (s[k].toNat : Int) ∧ (s[k].toNat : Int) ≤ 57 := by
  rw [allB, List.all_eq_true] at ha
  have hm : s[k] ∈ s.data.toList := by
    have : s[k] = s.data.toList[k]'(by simpa using h) := rfl
    rw [this]; exact List.getElem_mem _
  have := ha _ hm
  simpa [digB] using this

theorem empty_no (s : ByteArray) (h0 : 0 < s.size) : (s.toList == []) = false := by
  rw [beq_eq_false_iff_ne]
  intro h
  rw [ByteArray.toList_eq] at h
  have := congrArg List.length h
  simp at this
  rw [← ByteArray.size_data] at h0
  simp [this] at h0

theorem empty_yes (s : ByteArray) (h0 : s.size = 0) : (s.toList == []) = true := by
  rw [ByteArray.toList_eq]
  have h1 : s.data.size = 0 := by rw [ByteArray.size_data]; exact h0
  have h2 : s.data.toList = [] := by
    apply List.eq_nil_of_length_eq_zero; simpa using h1
  rw [h2]; rfl

set_option maxHeartbeats 400000 in
theorem number_yes (s : ByteArray) (w : World) (hs : s.size ≤ maxLen) (h0 : 0 < s.size) (ha : allB s.data.toList = true) :
    Calls Try.prog 14 #[.string s] w fun e w' => e = .returned (.tuple #[.int .i64 (wrap64 (decVal s.data.toList)), .bool true]) ∧ w' = w := by
  have hs' := hs
  unfold maxLen at hs
  have HA : Hid (allB s.data.toList = true) := ha
  have HM : Hid (s.size ≤ maxLen) := hs'
  have he := empty_no s h0
  go_enter Try.func14, Try.ntmps14
  go_wp2_with (go_at_call 15; refine (allDigits_any _ _ HM.out).mono ?_; rintro e w' ⟨rfl, rfl⟩)
  go_loop [4, 5] (fun n i => ∃ k : Nat, k ≤ s.size ∧ i = .int .i64 k ∧ n = .int .i64 (wrap64 (decVal (s.data.toList.take k)))) (fun _ i => s.size - (intOf i).toNat)
  case atStart => exact ⟨0, Nat.zero_le _, rfl, by simp [decVal, wrap64]⟩
  case round =>
    obtain ⟨k, hk, rfl, rfl⟩ := hrel
    by_cases hlt : k < s.size
    · have hdg := digit_at s k hlt HA.out
      obtain ⟨hd1, hd2⟩ := hdg
      have HS : Hid (decVal (s.data.toList.take (k + 1)) = decVal (s.data.toList.take k) * 10 + ((s[k].toNat : Int) - 48)) := by
        show _ = _
        rw [take_snoc s k hlt, decVal_snoc]
      generalize decVal (s.data.toList.take k) = v at HS ⊢
      go_wp2
      go_round
      case rel => exact ⟨k + 1, by omega, by go_num, by rw [HS.out, ← wrap_step]⟩
      case measure => simp [intOf]; omega
    · have HF : Hid (s.data.toList.take k = s.data.toList) := by
        show _ = _
        rw [List.take_of_length_le (by simp; omega)]
      go_wp2
      go_ret2
      exact ⟨ret_pair (by rw [HF.out]), rfl⟩

set_option maxHeartbeats 400000 in
theorem number_empty (s : ByteArray) (w : World) (h0 : s.size = 0) :
    Calls Try.prog 14 #[.string s] w fun e w' => e = .returned (.tuple #[.int .i64 0, .bool false]) ∧ w' = w := by
  have he := empty_yes s h0
  go_enter Try.func14, Try.ntmps14
  go_wp2
  go_ret2
  exact ⟨rfl, rfl⟩

set_option maxHeartbeats 400000 in
theorem number_no (s : ByteArray) (w : World) (hs : s.size ≤ maxLen) (ha : allB s.data.toList = false) :
    Calls Try.prog 14 #[.string s] w fun e w' => e = .returned (.tuple #[.int .i64 0, .bool false]) ∧ w' = w := by
  by_cases h0 : s.size = 0
  · exact number_empty s w h0
  have HM : Hid (s.size ≤ maxLen) := hs
  clear hs
  have he := empty_no s (by omega)
  go_enter Try.func14, Try.ntmps14
  go_wp2_with (go_at_call 15; refine (allDigits_any _ _ HM.out).mono ?_; rintro e w' ⟨rfl, rfl⟩)
  go_ret2
  exact ⟨rfl, rfl⟩

/-- number's two answers, in one. -/
def numV (l : List UInt8) : Int := if 0 < l.length ∧ allB l = true then wrap64 (decVal l) else 0
def numOk (l : List UInt8) : Bool := decide (0 < l.length) && allB l

theorem number_any (s : ByteArray) (w : World) (hs : s.size ≤ maxLen) :
    Calls Try.prog 14 #[.string s] w fun e w' => e = .returned (.tuple #[.int .i64 (numV s.data.toList), .bool (numOk s.data.toList)]) ∧ w' = w := by
  have hl : s.data.toList.length = s.size := by simp
  by_cases h0 : s.size = 0
  · have e1 : numV s.data.toList = 0 := by unfold numV; rw [if_neg (by omega)]
    have e2 : numOk s.data.toList = false := by unfold numOk; rw [hl, h0]; rfl
    rw [e1, e2]; exact number_empty s w h0
  · cases ha : allB s.data.toList
    · have e1 : numV s.data.toList = 0 := by unfold numV; rw [if_neg (by simp [ha])]
      have e2 : numOk s.data.toList = false := by unfold numOk; rw [ha]; simp
      rw [e1, e2]; exact number_no s w hs ha
    · have e1 : numV s.data.toList = wrap64 (decVal s.data.toList) := by unfold numV; rw [if_pos ⟨by omega, ha⟩]
      have e2 : numOk s.data.toList = true := by unfold numOk; rw [ha, hl]; simp; omega
      rw [e1, e2]; exact number_yes s w hs (by omega) ha

theorem zznumber_any (s : ByteArray) (w : World) (hs : s.size ≤ maxLen) :
    Calls Try.prog 9 #[.string s] w fun e w' => e = .returned (.tuple #[.int .i64 (numV s.data.toList), .bool (numOk s.data.toList)]) ∧ w' = w := by
  have HM : Hid (s.size ≤ maxLen) := hs
  clear hs
  generalize hv : numV s.data.toList = v
  generalize hb : numOk s.data.toList = b
  have HV : Hid (numV s.data.toList = v) := hv
  have HB : Hid (numOk s.data.toList = b) := hb
  clear hv hb
  go_enter Try.func9, Try.ntmps9
  go_wp2_with (go_at_call 14; refine (number_any _ _ HM.out).mono ?_; rw [HV.out, HB.out]; rintro e w' ⟨rfl, rfl⟩)
  go_ret2
  exact ⟨rfl, rfl⟩
end Go.Proofs.Qxb6601559a
