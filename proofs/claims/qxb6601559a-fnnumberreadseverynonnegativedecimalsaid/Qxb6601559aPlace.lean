import Derived.Test.Qxb6601559aNumber
namespace Go.Proofs.Qxb6601559a
open Go.ChangeShapes Go.WideShapes Go.ChangeAt Go.RowKit
set_option linter.unusedVariables false

def dvV (c : Int) : Int := if digB c then c - 48 else 0

theorem digitValue_yes (c : Int) (w : World) (h1 : 48 ≤ c) (h2 : c ≤ 57) :
    Calls Try.prog 8 #[.int .u8 c] w fun e w' => e = .returned (.tuple #[.int .i64 (c - 48), .bool true]) ∧ w' = w := by
  obtain rfl | rfl | rfl | rfl | rfl | rfl | rfl | rfl | rfl | rfl : c = 48 ∨ c = 49 ∨ c = 50 ∨ c = 51 ∨ c = 52 ∨ c = 53 ∨ c = 54 ∨ c = 55 ∨ c = 56 ∨ c = 57 := by omega
  all_goals
    go_enter Try.func8, Try.ntmps8
    go_wp2
    go_ret2
    exact ⟨rfl, rfl⟩

theorem digitValue_no (c : Int) (w : World) (h : c < 48 ∨ 57 < c) :
    Calls Try.prog 8 #[.int .u8 c] w fun e w' => e = .returned (.tuple #[.int .i64 0, .bool false]) ∧ w' = w := by
  go_enter Try.func8, Try.ntmps8
  go_wp2
  go_ret2
  exact ⟨rfl, rfl⟩

theorem bytes_yes (s : ByteArray) (w : World) (hs : s.size ≤ 1048576) :
    Calls Try.prog 7 #[.string s] w fun e w' => e = .returned (.bool true) ∧ w' = w := by
  go_enter Try.func7, Try.ntmps7
  go_wp2
  go_ret
  exact ⟨rfl, rfl⟩

theorem bytes_no (s : ByteArray) (w : World) (hs : ¬ s.size ≤ 1048576) (hm : s.size ≤ maxLen) :
    Calls Try.prog 7 #[.string s] w fun e w' => e = .returned (.bool false) ∧ w' = w := by
  unfold maxLen at hm
  go_enter Try.func7, Try.ntmps7
  go_wp2
  go_ret
  exact ⟨rfl, rfl⟩

theorem foldl_dec (l : List UInt8) (a : Int) : l.foldl (fun n c => n * 10 + ((c.toNat : Int) - 48)) a = a * 10 ^ l.length + decVal l := by
  induction l generalizing a with
  | nil => simp [decVal]
  | cons c l ih =>
    have e : decVal (c :: l) = ((c.toNat : Int) - 48) * 10 ^ l.length + decVal l := by
      have := ih (0 * 10 + ((c.toNat : Int) - 48))
      rw [Int.zero_mul, Int.zero_add] at this
      rw [← this]; simp [decVal]
    rw [List.foldl_cons, ih, e, List.length_cons, Int.pow_succ, Int.add_mul, Int.mul_assoc, Int.mul_comm 10]
    omega

theorem decVal_cons (c : UInt8) (l : List UInt8) : decVal (c :: l) = ((c.toNat : Int) - 48) * 10 ^ l.length + decVal l := by
  have := foldl_dec l (0 * 10 + ((c.toNat : Int) - 48))
  rw [Int.zero_mul, Int.zero_add] at this
  rw [← this]; simp [decVal]

theorem wrap64_ex (x : Int) : ∃ k : Int, wrap64 x = x + k * 18446744073709551616 := by
  refine ⟨- ((x + 9223372036854775808) / 18446744073709551616), ?_⟩
  unfold wrap64; omega

theorem wrap64_add_mul (x k : Int) : wrap64 (x + k * 18446744073709551616) = wrap64 x := by
  unfold wrap64; omega

theorem place_step (v d p : Int) : wrap64 (wrap64 v + wrap64 (d * wrap64 p)) = wrap64 (d * p + v) := by
  obtain ⟨k, hk⟩ := wrap64_ex p
  obtain ⟨j, hj⟩ := wrap64_ex v
  rw [hk, Int.mul_add, ← Int.mul_assoc, wrap64_add_mul]
  obtain ⟨m, hm⟩ := wrap64_ex (d * p)
  rw [hj, hm]
  have : v + j * 18446744073709551616 + (d * p + m * 18446744073709551616) = (d * p + v) + (j + m) * 18446744073709551616 := by
    rw [Int.add_mul]; omega
  rw [this, wrap64_add_mul]

theorem ten_step (p : Int) : wrap64 (wrap64 p * 10) = wrap64 (p * 10) := by
  unfold wrap64; omega

theorem drop_cons (s : ByteArray) (k : Nat) (h : k < s.size) : s.data.toList.drop k = s[k] :: s.data.toList.drop (k + 1) := by
  rw [List.drop_eq_getElem_cons (by simpa using h)]; rfl

theorem allB_drop (s : ByteArray) (k : Nat) (h : k < s.size) : allB (s.data.toList.drop k) = (digB s[k].toNat && allB (s.data.toList.drop (k + 1))) := by
  rw [drop_cons s k h]; simp [allB]

end Go.Proofs.Qxb6601559a
