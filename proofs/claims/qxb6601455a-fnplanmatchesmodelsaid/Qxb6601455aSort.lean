import Derived.Test.Qxb6601455aPdq
namespace Go.Proofs.Qxb6601455a
open Go.ChangeShapes Go.WideShapes Go.ChangeAt Go.RowKit
open Go.Sort (swp ltInt PermIn SortedIn swo_ltInt)
set_option linter.unusedVariables false

theorem sort_any (g cap : Nat) (d : Array Int) (w : World) (hr : RowA w g d) (hsz : d.size ≤ 1000000) :
    Calls Try.prog 15 #[.slice (some ⟨g, 0, none⟩) d.size cap] w fun e w' => e = .returned (.tuple #[]) ∧ w.grownBy w' (some g) ∧ ∃ d', RowA w' g d' ∧ PermIn 0 d.size d d' ∧ SortedIn ltInt 0 d.size d' := by
  have q4 : Lib.bitLen d.size ≤ 20 := Lib.bitLen_le d.size 20 (by omega) (by omega)
  obtain ⟨lim, hlim⟩ : ∃ lim, Lib.bitLen d.size = lim := ⟨_, rfl⟩
  have c := pdq_any g cap d.size 0 d.size lim d w (by omega) hr (by omega) (by omega) hsz (by omega) (.inl rfl)
  go_enter Try.func15, Try.ntmps15
  go_wp2_with (go_at_call 18; refine (Try.bits_Len _ _ (by omega) (by omega)).mono ?_; rintro e w' ⟨rfl, hw⟩; obtain rfl := hw.symm)
  go_at_call 17
  refine c.mono ?_
  rintro e w8 ⟨rfl, k8, d8, hr8, hp8, hs8⟩
  go_wp2_with fail
  go_end0
  exact ⟨rfl, k8, d8, hr8, hp8, hs8⟩

theorem index_any (g cap : Nat) (d : Array Int) (x : Int) (k : Nat) (w : World) (hr : RowA w g d) (hsz : d.size ≤ 1000000) (hk : k < d.size) (hx : d[k]! = x) (hf : ∀ t, t < k → d[t]! ≠ x) :
    Calls Try.prog 16 #[.slice (some ⟨g, 0, none⟩) d.size cap, .int .i32 x] w fun e w' => e = .returned (.int .i64 k) ∧ w' = w := by
  obtain ⟨G, HG, hc⟩ := hr.named
  have HX : Hid (G k = x) := by show _ = _; rw [HG.out]; exact hx
  have HF : Hid (∀ t, t < k → G t ≠ x) := by show ∀ t, t < k → G t ≠ x; intro t ht; rw [HG.out]; exact hf t ht
  clear hx hf
  go_enter Try.func16, Try.ntmps16
  go_wp2_with fail
  go_loop [8] (fun vi => ∃ i : Nat, vi = .int .i64 i ∧ i ≤ k) (fun vi => k - (intOf vi).toNat)
  case atStart => exact ⟨0, rfl, by omega⟩
  case round =>
    obtain ⟨i, rfl, hi⟩ := hrel
    have c1 := hc i (by omega)
    have hlt : (i : Int) < (d.size : Int) := by omega
    by_cases hik : i = k
    · have hb : (x == G i) = true := by rw [hik, HX.out]; simp
      have HE : Hid _ := hik
      clear hik
      go_wp2_with fail
      go_ret
      exact ⟨by rw [HE.out]; rfl, rfl⟩
    · have hb : (x == G i) = false := by
        have := HF.out i (by omega)
        simp; exact fun e => this e.symm
      go_wp2_with fail
      go_round
      case rel => exact ⟨i + 1, by go_num, by omega⟩
      case measure => simp [intOf]; omega
end Go.Proofs.Qxb6601455a
