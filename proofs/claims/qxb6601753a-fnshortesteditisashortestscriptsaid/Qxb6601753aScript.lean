import Derived.Test.Qxb6601753aLcs
namespace Go.Proofs.Qxb6601753a
open Go.ChangeShapes Go.WideShapes Go.ChangeAt Go.RowKit
open Plain
set_option linter.unusedVariables false

theorem chg_take (L : List (Int × Int × Int)) (k : Nat) (h : k < L.length) : chg (L.take (k + 1)) = chg (L.take k) + (if (L.getD k (0, 0, 0)).1 = 0 then 0 else 1) := by
  rw [List.take_succ_eq_append_getElem h, chg_append]
  simp [chg, List.getD_eq_getElem?_getD, h]
theorem chg_le (L : List (Int × Int × Int)) : chg L ≤ L.length := by
  induction L with
  | nil => simp [chg]
  | cons e L ih => simp only [chg, List.length_cons]; split <;> omega

set_option maxHeartbeats 1000000 in
theorem changes_any (g N : Nat) (L : List (Int × Int × Int)) (w : World) (hN : N = L.length) (hb : N ≤ 1000000) (h : RowE w g N 32 N (fun t => L.getD t (0, 0, 0))) :
    Calls Try.prog 10 #[.slice (some ⟨g, 0, none⟩) N N] w fun e w' => e = .returned (.int .i64 (chg L : Nat)) ∧ w' = w := by
  have HN : Hid _ := hN
  clear hN
  go_enter Try.func10, Try.ntmps10
  go_wp2
  go_loop [3, 4] (fun cv iv => ∃ k : Nat, k ≤ N ∧ iv = .int .i64 k ∧ cv = .int .i64 (chg (L.take k) : Nat)) (fun _ iv => N - (intOf iv).toNat)
  case atStart => exact ⟨0, Nat.zero_le _, rfl, by simp [chg]⟩
  case round =>
    obtain ⟨k, hk, rfl, rfl⟩ := hrel
    have hle := chg_le (L.take k)
    have hle2 : (L.take k).length ≤ k := List.length_take_le _ _
    by_cases hlt : k < N
    · have hct := chg_take L k (by rw [← HN.out]; exact hlt)
      obtain ⟨c0, c1, c2⟩ := h.cells k hlt
      by_cases hz : (L.getD k (0, 0, 0)).1 = 0
      · rw [if_pos hz] at hct
        rw [hz] at c0
        have HCT : Hid _ := hct
        clear hct hz c1 c2
        go_wp2
        go_round
        case rel => exact ⟨k + 1, by omega, by go_num, by rw [HCT.out]; rfl⟩
        case measure => simp [intOf]; omega
      · rw [if_neg hz] at hct
        have HCT : Hid _ := hct
        generalize (L.getD k (0, 0, 0)).1 = a at *
        have hzb : (a != 0) = true := by simp [hz]
        clear hct hz c1 c2
        go_wp2
        go_round
        case rel => exact ⟨k + 1, by omega, by go_num, by rw [HCT.out]; go_num⟩
        case measure => simp [intOf]; omega
    · have HT : Hid (L.take k = L) := by
        show _ = _
        rw [List.take_of_length_le (by rw [← HN.out]; omega)]
      go_wp2
      go_ret
      exact ⟨by rw [HT.out]; rfl, rfl⟩

theorem drop_get (L : List (Int × Int × Int)) (t : Nat) (h : t < L.length) : L.drop t = L.getD t (0, 0, 0) :: L.drop (t + 1) := by
  rw [List.drop_eq_getElem_cons h]; simp [List.getD_eq_getElem?_getD, h]

set_option maxRecDepth 100000 in
set_option maxHeartbeats 4000000 in
theorem script_any (g N n m bx cx by_ cy : Nat) (ax ay : Option Addr) (X Y : Nat → Int) (L : List (Int × Int × Int)) (w : World) (hN : N = L.length) (hb : N ≤ 1000000) (h : RowE w g N 32 N (fun t => L.getD t (0, 0, 0)))
    (hn : n ≤ 65536) (hm : m ≤ 65536) (hax : 0 < n → ax = some ⟨bx, 0, none⟩) (hay : 0 < m → ay = some ⟨by_, 0, none⟩)
    (hx : ∀ t, t < n → w.cell? ⟨bx, t, none⟩ = some (.int .i64 (X t))) (hy : ∀ t, t < m → w.cell? ⟨by_, t, none⟩ = some (.int .i64 (Y t))) (hv : Valid (EQ X Y n m) n m 0 0 L) :
    Calls Try.prog 9 #[.slice (some ⟨g, 0, none⟩) N N, .slice ax n cx, .slice ay m cy] w fun e w' => e = .returned (.bool true) ∧ Below w.heap.size w w' := by
  have HN : Hid _ := hN
  have HX : Hid _ := hx
  have HY : Hid _ := hy
  have hgl := h.lt
  clear hN hx hy
  go_enter Try.func9, Try.ntmps9
  go_wp2
  go_loopw [7, 8, 9] (fun iv jv tv wr => ∃ i j t : Nat, iv = .int .i64 i ∧ jv = .int .i64 j ∧ tv = .int .i64 t ∧ t ≤ N ∧ Valid (EQ X Y n m) n m i j (L.drop t) ∧ Below w.heap.size w wr) (fun _ _ tv _ => N - (intOf tv).toNat)
  case atStart => exact ⟨0, 0, 0, rfl, rfl, rfl, Nat.zero_le _, hv, Below.refl _ _⟩
  case round =>
    obtain ⟨i, j, t, rfl, rfl, rfl, ht, hval, hbel⟩ := hrel
    obtain ⟨hin, hjm, _⟩ := valid_length EQ_lt _ _ _ hval
    by_cases hlt : t < N
    · have hr := h.below hbel hgl
      obtain ⟨c0, c1, c2⟩ := hr.cells t hlt
      rw [drop_get L t (by rw [← HN.out]; exact hlt)] at hval
      clear hr
      rcases hval with ⟨he, hE, hval⟩ | ⟨he, hi1, hval⟩ | ⟨he, hj1, hval⟩
      · simp only [he] at c0 c1 c2
        have hlt2 := EQ_lt i j hE
        obtain ⟨hi1, hj1⟩ := hlt2
        obtain rfl := hax (by omega)
        obtain rfl := hay (by omega)
        have hcx : wr.cell? ⟨bx, i, none⟩ = some (.int .i64 (X i)) := (hbel.cell (World.block_lt_of_cell? _ _ (HX.out i hi1))).trans (HX.out i hi1)
        have hcy : wr.cell? ⟨by_, j, none⟩ = some (.int .i64 (Y j)) := (hbel.cell (World.block_lt_of_cell? _ _ (HY.out j hj1))).trans (HY.out j hj1)
        have hxy : X i = Y j := by simpa [EQ, hi1, hj1] using hE
        rw [hxy] at hcx
        have hd1 : decide ((n : Int) ≤ (i : Int)) = false := decide_eq_false (by omega)
        have hd2 : decide ((m : Int) ≤ (j : Int)) = false := decide_eq_false (by omega)
        have HVAL : Hid _ := hval
        have hbx := World.block_lt_of_cell? _ _ hcx
        have hby := World.block_lt_of_cell? _ _ hcy
        clear hval hE he hxy
        go_upto_region 10 with fail
        go_quiet (fail)
        go_wp2_with fail
        go_roundw
        case rel => exact ⟨i + 1, j + 1, t + 1, by go_num, by go_num, by go_num, by omega, HVAL.out, below_drewN' (hbel.alloc hbel.size _) _⟩
        case measure => simp [intOf]; omega
      · simp only [he] at c0 c1 c2
        have hd1 : decide ((n : Int) ≤ (i : Int)) = false := decide_eq_false (by omega)
        have HVAL : Hid _ := hval
        clear hval he
        go_wp2_with fail
        go_roundw
        case rel => exact ⟨i + 1, j, t + 1, by go_num, rfl, by go_num, by omega, HVAL.out, hbel.alloc hbel.size _⟩
        case measure => simp [intOf]; omega
      · simp only [he] at c0 c1 c2
        have hd1 : decide ((m : Int) ≤ (j : Int)) = false := decide_eq_false (by omega)
        have HVAL : Hid _ := hval
        clear hval he
        go_wp2_with fail
        go_roundw
        case rel => exact ⟨i, j + 1, t + 1, rfl, by go_num, by go_num, by omega, HVAL.out, hbel.alloc hbel.size _⟩
        case measure => simp [intOf]; omega
    · rw [List.drop_of_length_le (by rw [← HN.out]; omega)] at hval
      obtain ⟨rfl, rfl⟩ := hval
      go_wp2_with fail
      go_ret
      exact ⟨by simp, hbel⟩
end Go.Proofs.Qxb6601753a
