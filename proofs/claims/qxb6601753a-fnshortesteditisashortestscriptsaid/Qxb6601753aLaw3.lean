import Derived.Test.Qxb6601753aScript
namespace Go.Proofs.Qxb6601753a
open Go.ChangeShapes Go.WideShapes Go.ChangeAt Go.RowKit
open Plain
set_option linter.unusedVariables false

theorem bytes6_in (a b : Option Addr) (n c m e : Nat) (B : Int) (w : World) (hn : n ≤ 1024) (hm : m ≤ 1024) :
    Calls Try.prog 6 #[.slice a n c, .slice b m e, .int .i64 B] w fun e w' => e = .returned (.bool true) ∧ w' = w := by
  go_enter Try.func6, Try.ntmps6
  go_wp2
  go_ret
  exact ⟨rfl, rfl⟩

theorem bytes6_any (a b : Option Addr) (n c m e : Nat) (B : Int) (w : World) (hn : n ≤ maxLen) (hm : m ≤ maxLen) :
    Calls Try.prog 6 #[.slice a n c, .slice b m e, .int .i64 B] w fun e w' => (e = .returned (.bool true) ∨ e = .returned (.bool false)) ∧ w' = w := by
  unfold maxLen at hn hm
  by_cases h1 : n ≤ 1048576
  · by_cases h2 : m ≤ 1048576
    · by_cases h3 : n + m ≤ 1048576
      · go_enter Try.func6, Try.ntmps6
        go_wp2
        go_ret
        exact ⟨.inl rfl, rfl⟩
      · go_enter Try.func6, Try.ntmps6
        go_wp2
        go_ret
        exact ⟨.inr rfl, rfl⟩
    · go_enter Try.func6, Try.ntmps6
      go_wp2
      go_ret
      exact ⟨.inr rfl, rfl⟩
  · go_enter Try.func6, Try.ntmps6
    go_wp2
    go_ret
    exact ⟨.inr rfl, rfl⟩

set_option maxHeartbeats 1000000 in
set_option maxRecDepth 100000 in
theorem law3_out (a b : Option Addr) (n c m e : Nat) (B : Int) (w : World) (hn : n ≤ maxLen) (hm : m ≤ maxLen) (h : ¬ (n ≤ 1024 ∧ m ≤ 1024 ∧ -1073741824 ≤ B)) :
    Calls Try.prog 3 #[.slice a n c, .slice b m e, .int .i64 B] w fun e w' => e = .returned (.bool true) ∧ w' = w := by
  have HC := bytes6_any a b n c m e B w hn hm
  by_cases h1 : n ≤ 1024
  · by_cases h2 : m ≤ 1024
    · have h3 : B < -1073741824 := by omega
      clear h
      go_enter Try.func3, Try.ntmps3
      go_wp2_with (go_at_call 6; refine HC.mono ?_; rintro e w' ⟨rfl | rfl, rfl⟩)
      all_goals
        go_wp2
        go_ret
        exact ⟨rfl, rfl⟩
    · clear h
      go_enter Try.func3, Try.ntmps3
      go_wp2_with (go_at_call 6; refine HC.mono ?_; rintro e w' ⟨rfl | rfl, rfl⟩)
      all_goals
        go_wp2
        go_ret
        exact ⟨rfl, rfl⟩
  · clear h
    go_enter Try.func3, Try.ntmps3
    go_wp2_with (go_at_call 6; refine HC.mono ?_; rintro e w' ⟨rfl | rfl, rfl⟩)
    all_goals
      go_wp2
      go_ret
      exact ⟨rfl, rfl⟩

/-! ### the script that removes all and adds all -/
theorem valid_adds (E : Nat → Nat → Bool) (n m k : Nat) : ∀ j, j + k = m → Valid E n m n j ((List.range' j k).map fun t : Nat => ((2 : Int), (0 : Int), (t : Int))) := by
  induction k with
  | zero => intro j h; simp [Valid]; omega
  | succ k ih =>
    intro j h
    rw [List.range'_succ, List.map_cons]
    exact .inr (.inr ⟨rfl, by omega, ih (j + 1) (by omega)⟩)
theorem valid_rems (E : Nat → Nat → Bool) (n m k : Nat) : ∀ i, i + k = n → Valid E n m i 0 (((List.range' i k).map fun t : Nat => ((1 : Int), (t : Int), (0 : Int))) ++ (List.range' 0 m).map fun t : Nat => ((2 : Int), (0 : Int), (t : Int))) := by
  induction k with
  | zero =>
    intro i h
    have : i = n := by omega
    subst this
    exact valid_adds E i m m 0 (by omega)
  | succ k ih =>
    intro i h
    rw [List.range'_succ, List.map_cons, List.cons_append]
    exact .inr (.inl ⟨rfl, by omega, ih (i + 1) (by omega)⟩)
def allOut (n m : Nat) : List (Int × Int × Int) := ((List.range' 0 n).map fun t : Nat => ((1 : Int), (t : Int), (0 : Int))) ++ (List.range' 0 m).map fun t : Nat => ((2 : Int), (0 : Int), (t : Int))
theorem allOut_valid (E n m) : Valid E n m 0 0 (allOut n m) := valid_rems E n m n 0 (by omega)
theorem allOut_length (n m) : (allOut n m).length = n + m := by simp [allOut]
theorem allOut_get (n m t : Nat) (h : t < n + m) : repl n t = (allOut n m).getD t (0, 0, 0) := by
  unfold repl allOut
  rw [List.getD_eq_getElem?_getD]
  by_cases ht : t < n
  · rw [if_pos ht, List.getElem?_append_left (by simpa using ht)]
    simp [ht]
  · rw [if_neg ht, List.getElem?_append_right (by simp; omega)]
    have : t - n < m := by omega
    simp [this]
theorem chg_map (k : Int) (hk : k ≠ 0) (f g : Nat → Int) (l : List Nat) : chg (l.map fun t => (k, f t, g t)) = l.length := by
  induction l with
  | nil => rfl
  | cons a l ih => simp [chg, ih, hk]
theorem allOut_chg (n m) : chg (allOut n m) = n + m := by
  unfold allOut
  rw [chg_append, chg_map 1 (by decide) (fun t => (t : Int)) (fun _ => 0), chg_map 2 (by decide) (fun _ => 0) (fun t => (t : Int))]; simp
theorem lc_empty (E : Nat → Nat → Bool) (n m : Nat) (h : n = 0 ∨ m = 0) : lc E n m = 0 := by
  rcases h with rfl | rfl
  · exact lc_zero _ _
  · exact lc_left _ _

/-! ### the law's own numbers -/
theorem law_nums (D sh : Nat) (hD : D ≤ 2048) (hsh : sh ≤ 1024) : ∃ sq tri tr pr : Int, ((D : Int) + 1) * ((D : Int) + 1) = sq ∧ ((D : Int) + 1) * ((D : Int) + 2) = tri ∧ tri / 2 = tr ∧ tr * (sh : Int) = pr ∧
    0 ≤ sq ∧ sq ≤ 4198401 ∧ 0 ≤ tri ∧ tri ≤ 4200450 ∧ 0 ≤ tr ∧ tr ≤ 2100225 ∧ 0 ≤ pr ∧ pr ≤ 2150630400 ∧ 2 * pr = (((D + 1) * (D + 2) * sh : Nat) : Int) ∧ sq = ((D + 1 : Nat) : Int) * ((D + 1 : Nat) : Int) := by
  have e1 : ((D : Int) + 1) * ((D : Int) + 1) = (((D + 1) * (D + 1) : Nat) : Int) := by rw [Int.natCast_mul]; rfl
  have e2 : ((D : Int) + 1) * ((D : Int) + 2) = (((D + 1) * (D + 2) : Nat) : Int) := by rw [Int.natCast_mul]; rfl
  have b1 : (D + 1) * (D + 1) ≤ 2049 * 2049 := Nat.mul_le_mul (by omega) (by omega)
  have b2 : (D + 1) * (D + 2) ≤ 2049 * 2050 := Nat.mul_le_mul (by omega) (by omega)
  have ev : (D + 1) * (D + 2) % 2 = 0 := by
    have : (D + 1) % 2 = 0 ∨ (D + 2) % 2 = 0 := by omega
    rcases this with h | h
    · rw [Nat.mul_mod, h]; simp
    · rw [Nat.mul_mod, h]; simp
  generalize ht : (D + 1) * (D + 2) = T at *
  have e3 : (T : Int) / 2 = ((T / 2 : Nat) : Int) := by omega
  have e4 : ((T / 2 : Nat) : Int) * (sh : Int) = ((T / 2 * sh : Nat) : Int) := by rw [Int.natCast_mul]
  have b3 : T / 2 * sh ≤ 2100225 * 1024 := Nat.mul_le_mul (by omega) hsh
  have e5 : 2 * (T / 2 * sh) = T * sh := by rw [← Nat.mul_assoc]; congr 1; omega
  refine ⟨_, _, _, _, rfl, rfl, rfl, rfl, ?_⟩
  rw [e1, e2, e3, e4]
  refine ⟨by omega, by omega, by omega, by omega, by omega, by omega, by omega, by omega, by omega, ?_⟩
  rw [Int.natCast_mul]

theorem nil_lt (B b' s sq pr : Int) (d D sh : Nat) (h1 : d ≤ D) (h2 : b' = B - ((d + 1 : Nat) : Int) * ((d + 1 : Nat) : Int) - s) (h3 : b' < 0) (h4 : 2 * s ≤ ((d * (d + 1) * sh : Nat) : Int)) (h5 : 2 * pr = (((D + 1) * (D + 2) * sh : Nat) : Int)) (h6 : sq = ((D + 1 : Nat) : Int) * ((D + 1 : Nat) : Int)) : B < sq + pr := by
  have m1 : (d + 1) * (d + 1) ≤ (D + 1) * (D + 1) := Nat.mul_le_mul (by omega) (by omega)
  have m2 : d * (d + 1) * sh ≤ (D + 1) * (D + 2) * sh := Nat.mul_le_mul_right _ (Nat.mul_le_mul (by omega) (by omega))
  rw [← Int.natCast_mul] at h2 h6
  omega
end Go.Proofs.Qxb6601753a
