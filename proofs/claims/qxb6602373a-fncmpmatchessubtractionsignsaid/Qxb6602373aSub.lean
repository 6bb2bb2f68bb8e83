import Derived.Test.Qxb6602373aRows
import Derived.WalkKit
import Derived.ProofKit
import Derived.OpenShut
import Derived.Below
import Derived.Laws.BitsAllLaws
namespace Go.Proofs.Qxb6602373a
open Go.ChangeShapes Go.WideShapes Go.ChangeAt Go.RowKit
set_option linter.unusedVariables false

/-- The difference's low 64 bits, and the borrow. -/
def difV (x y c : Int) : Int := (x - y - c) % 18446744073709551616
def borV (x y c : Int) : Int := if x < y + c then 1 else 0

theorem wrap_u (n : Int) : IntKind.u64.wrap n = n % 18446744073709551616 := by
  simp [IntKind.wrap, IntKind.bits, IntKind.signed]

theorem dif_eq (x y c : Int) : IntKind.u64.wrap (IntKind.u64.wrap (x - y) - c) = difV x y c := by
  rw [wrap_u, wrap_u]; unfold difV; omega

theorem top_and (a b : Nat) : (a &&& b) / 9223372036854775808 = (a / 9223372036854775808) &&& (b / 9223372036854775808) := by
  have := Nat.shiftRight_and_distrib (a := a) (b := b) (i := 63)
  simpa [Nat.shiftRight_eq_div_pow] using this
theorem top_or (a b : Nat) : (a ||| b) / 9223372036854775808 = (a / 9223372036854775808) ||| (b / 9223372036854775808) := by
  have := Nat.shiftRight_or_distrib (a := a) (b := b) (i := 63)
  simpa [Nat.shiftRight_eq_div_pow] using this
theorem top_xor (a b : Nat) : (a ^^^ b) / 9223372036854775808 = (a / 9223372036854775808) ^^^ (b / 9223372036854775808) := by
  have := Nat.shiftRight_xor_distrib (a := a) (b := b) (i := 63)
  simpa [Nat.shiftRight_eq_div_pow] using this

theorem lt_xor (a b : Nat) (ha : a < 18446744073709551616) (hb : b < 18446744073709551616) : a ^^^ b < 18446744073709551616 := Nat.xor_lt_two_pow (n := 64) ha hb
theorem lt_and (a b : Nat) (ha : a < 18446744073709551616) : a &&& b < 18446744073709551616 := Nat.lt_of_le_of_lt Nat.and_le_left ha

/-- The sign-bit formula is the borrow: on bits. -/
theorem bor_bits (x y d : Nat) (c : Nat) (hx : x < 18446744073709551616) (hy : y < 18446744073709551616) (hc : c ≤ 1) (hd : (d : Int) = difV x y c) :
    (((18446744073709551615 ^^^ x) &&& y) ||| ((18446744073709551615 ^^^ (x ^^^ y)) &&& d)) / 9223372036854775808 = (borV x y c).toNat := by
  rw [top_or, top_and, top_and, top_xor, top_xor, top_xor]
  unfold difV at hd
  unfold borV
  have x1 : x / 9223372036854775808 = 0 ∨ x / 9223372036854775808 = 1 := by omega
  have y1 : y / 9223372036854775808 = 0 ∨ y / 9223372036854775808 = 1 := by omega
  have d1 : d / 9223372036854775808 = 0 ∨ d / 9223372036854775808 = 1 := by omega
  have e : 18446744073709551615 / 9223372036854775808 = 1 := by decide
  rw [e]
  rcases x1 with hx1 | hx1 <;> rcases y1 with hy1 | hy1 <;> rcases d1 with hd1 | hd1 <;> rw [hx1, hy1, hd1] <;> split <;> first | rfl | (exfalso; omega)

theorem bor_eq (x y c : Int) (hx0 : 0 ≤ x) (hx : x ≤ 18446744073709551615) (hy0 : 0 ≤ y) (hy : y ≤ 18446744073709551615) (hc0 : 0 ≤ c) (hc : c ≤ 1) :
    bits .or .u64 (bits .and .u64 (bits .xor .u64 IntKind.u64.max x) y) (bits .and .u64 (bits .xor .u64 IntKind.u64.max (bits .xor .u64 x y)) (difV x y c)) / 9223372036854775808 = borV x y c := by
  obtain ⟨a, rfl⟩ := Int.eq_ofNat_of_zero_le hx0
  obtain ⟨b, rfl⟩ := Int.eq_ofNat_of_zero_le hy0
  obtain ⟨k, rfl⟩ := Int.eq_ofNat_of_zero_le hc0
  have hM : IntKind.u64.max = ((18446744073709551615 : Nat) : Int) := by decide
  obtain ⟨d, hd⟩ : ∃ d : Nat, (d : Int) = difV a b k := ⟨(difV a b k).toNat, by unfold difV; omega⟩
  have hdl : d < 18446744073709551616 := by unfold difV at hd; omega
  have key := bor_bits a b d k (by omega) (by omega) (by omega) hd
  have h1 := lt_xor 18446744073709551615 a (by omega) (by omega)
  have h2 := lt_xor a b (by omega) (by omega)
  have h3 := lt_xor 18446744073709551615 (a ^^^ b) (by omega) h2
  have h4 := lt_and _ b h1
  have h5 := lt_and _ d h3
  rw [hM, ← hd, u64_xor_nat _ _ (by omega) (by omega), u64_xor_nat _ _ (by omega) (by omega), u64_xor_nat _ _ (by omega) h2, u64_and_nat _ _ h1 (by omega), u64_and_nat _ _ h3 hdl, u64_or_nat _ _ h4 h5]
  have hb0 : 0 ≤ borV a b k := by unfold borV; split <;> omega
  omega

theorem ret_two {a b c d : Int} (h1 : a = c) (h2 : b = d) : Ending.returned (.tuple #[.int .u64 a, .int .u64 b]) = .returned (.tuple #[.int .u64 c, .int .u64 d]) := by rw [h1, h2]

theorem sub_any (x y c : Int) (w : World) (hx0 : 0 ≤ x) (hx : x ≤ 18446744073709551615) (hy0 : 0 ≤ y) (hy : y ≤ 18446744073709551615) (hc0 : 0 ≤ c) (hc : c ≤ 1) :
    Calls Try.prog 9 #[.int .u64 x, .int .u64 y, .int .u64 c] w fun e w' => e = .returned (.tuple #[.int .u64 (difV x y c), .int .u64 (borV x y c)]) ∧ w' = w := by
  have e1 := dif_eq x y c
  have e2 := bor_eq x y c hx0 hx hy0 hy hc0 hc
  have E1 : Hid _ := e1
  have E2 : Hid _ := e2
  clear e1 e2
  go_enter Try.func9, Try.ntmps9
  go_wp2
  go_ret2
  exact ⟨ret_two E1.out (by rw [E1.out]; exact E2.out), rfl⟩
end Go.Proofs.Qxb6602373a
