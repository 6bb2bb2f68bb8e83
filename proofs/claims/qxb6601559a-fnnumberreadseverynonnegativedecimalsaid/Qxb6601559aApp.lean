import Derived.Test.Qxb6601559aPlace
namespace Go.Proofs.Qxb6601559a
open Go.ChangeShapes Go.WideShapes Go.ChangeAt Go.RowKit
set_option linter.unusedVariables false

/-- A byte as a cell. -/
def bv (b : UInt8) : Value := .int .u8 (b.toNat : Int)

theorem bv_one (l : List UInt8) (u : Value) (h : u ∈ l.map bv) : u.oneCell' = true := by
  obtain ⟨b, _, rfl⟩ := List.mem_map.1 h; rfl

theorem ownsRow_below {w w' : World} {base : Nat} {e : TypeId} {size : Nat} {v : Value} {n : Nat} {xs : List Value} (h : w.ownsRow base e size v n xs) (hb : Below w.heap.size w w') :
    w'.ownsRow base e size v n xs := by
  refine ⟨h.1, ?_⟩
  rcases h.2 with h2 | ⟨g, cap, cur, h1, h2, h3, h4, h5, h6, h7⟩
  · exact .inl h2
  · refine .inr ⟨g, cap, cur, h1, h2, ?_, h4, h5, h6, h7⟩
    rw [hb.block g (Array.getElem?_eq_some_iff.1 h3).1]; exact h3

theorem info5 : (Try.prog.info? 5).map (fun i => (i.zero, i.size, i.bytes)) = some (some (.int .u8 0), 1, 1) := by kernel_rfl

theorem digit_byte (m : Nat) : (Value.int .u8 (48 + (m : Int) % 10)) = bv (UInt8.ofNat (48 + m % 10)) := by
  unfold bv
  have : (UInt8.ofNat (48 + m % 10)).toNat = 48 + m % 10 := by
    rw [UInt8.toNat_ofNat']; omega
  rw [this]; congr 1

theorem digit_nat (m : Nat) : (UInt8.ofNat (48 + m % 10)).toNat = 48 + m % 10 := by
  rw [UInt8.toNat_ofNat']; omega

theorem pow_bound {n m k : Nat} (hk : k ≤ 24) (hn : n < 10 ^ 19) (h : m * 10 ^ (24 - k) ≤ n) (hm : 0 < m) : 5 < k := by
  refine Nat.lt_of_not_le fun hle => ?_
  have h1 : 10 ^ 19 ≤ 10 ^ (24 - k) := Nat.pow_le_pow_right (by omega) (by omega)
  have h2 : 1 * 10 ^ (24 - k) ≤ m * 10 ^ (24 - k) := Nat.mul_le_mul_right _ hm
  omega

theorem drop_set (l : List UInt8) (i : Nat) (c : UInt8) (h : i < l.length) : (l.set i c).drop i = c :: l.drop (i + 1) := by
  rw [List.drop_eq_getElem_cons (by simpa using h)]
  simp [List.drop_set]

set_option maxHeartbeats 1000000 in
theorem appendDecimal_any (base g k cap : Nat) (n : Nat) (L : List UInt8) (w : World) (hn : n < 9223372036854775808)
    (hown : w.ownsRow base 5 1 (.slice (some ⟨g, 0, none⟩) k cap) k (L.map bv)) (hfit : k + 24 ≤ cap) :
    Calls Try.prog 10 #[.slice (some ⟨g, 0, none⟩) k cap, .int .i64 n] w fun e w' => ∃ T : List UInt8, e = .returned (.slice (some ⟨g, 0, none⟩) (k + T.length) cap) ∧
      0 < T.length ∧ T.length ≤ 24 ∧ allB T = true ∧ decVal T = n ∧ w'.ownsRow base 5 1 (.slice (some ⟨g, 0, none⟩) (k + T.length) cap) (k + T.length) ((L ++ T).map bv) ∧ Below base w w' := by
  obtain ⟨hg1, hg2⟩ := hown.lt g rfl
  have hw0 : (w.alloc (Obj.cells #[.int .u8 0, .int .u8 0, .int .u8 0, .int .u8 0, .int .u8 0, .int .u8 0, .int .u8 0, .int .u8 0, .int .u8 0, .int .u8 0, .int .u8 0, .int .u8 0, .int .u8 0, .int .u8 0, .int .u8 0, .int .u8 0, .int .u8 0, .int .u8 0, .int .u8 0, .int .u8 0, .int .u8 0, .int .u8 0, .int .u8 0, .int .u8 0] 30)).ownsRow w.heap.size 30 1
      (.slice (some ⟨w.heap.size, 0, none⟩) 24 24) 24 ((List.replicate 24 (0 : UInt8)).map bv) :=
    ⟨by simp, .inr ⟨w.heap.size, 24, _, rfl, Nat.le_refl _, heap_alloc_new w _, Nat.le_refl _, by decide, by simp, by rfl⟩⟩
  have HW0 : Hid _ := hw0
  clear hw0
  obtain ⟨i0, hi, hz0, hz1, hz2⟩ := info_parts info5
  go_enter Try.func10, Try.ntmps10
  go_wp2
  go_loopw [1, 6] (fun nv iv wr => ∃ (m i : Nat) (xs : List UInt8), nv = .int .i64 m ∧ iv = .int .i64 i ∧ i ≤ 24 ∧ m < 9223372036854775808 ∧ xs.length = 24 ∧
      wr.ownsRow w.heap.size 30 1 (.slice (some ⟨w.heap.size, 0, none⟩) 24 24) 24 (xs.map bv) ∧ Below w.heap.size w wr ∧ allB (xs.drop i) = true ∧
      m * 10 ^ (24 - i) ≤ n ∧ (m : Int) * 10 ^ (24 - i) + decVal (xs.drop i) = n ∧ (i = 24 ∨ 0 < m)) (fun _ iv _ => (intOf iv).toNat)
  case atStart => exact ⟨n, 24, List.replicate 24 0, rfl, rfl, Nat.le_refl _, hn, rfl, HW0.out, (Below.refl _ _).alloc (Nat.le_refl _) _, rfl, by omega, by simp [decVal], .inl rfl⟩
  case round =>
    obtain ⟨m, i, xs, rfl, rfl, hi24, hm, hxs, hrow, hbel, hall, hle, hval, hpos⟩ := hrel
    obtain ⟨j, rfl⟩ : ∃ j, i = j + 1 := by
      refine ⟨i - 1, ?_⟩
      rcases hpos with rfl | hp
      · rfl
      · have := pow_bound hi24 (Nat.lt_trans hn (by decide)) hle hp; omega
    have hj : j < 24 := by omega
    obtain ⟨c, hc⟩ : ∃ c : UInt8, wr.cell? ⟨w.heap.size, j, none⟩ = some (bv c) :=
      ⟨xs[j]'(by omega), by rw [hrow.cellAt j (by omega), List.getElem?_map, List.getElem?_eq_getElem (by omega)]; rfl⟩
    have hfz := hrow.frozenAt j
    have hst := hrow.stored j (bv (UInt8.ofNat (48 + m % 10)))
    rw [← digit_byte m] at hst
    have HST : Hid _ := hst
    have HROW : Hid _ := hrow
    have HBEL : Hid _ := hbel
    have HALL : Hid _ := hall
    have HVAL : Hid _ := hval
    have HLE : Hid _ := hle
    have HPOS : Hid _ := hpos
    clear hst hrow hbel hall hval hle hpos
    unfold bv at hc
    by_cases h10 : m < 10
    · have hji : (j : Int) ≤ 24 := by omega
      have hjn : ¬ (24 = j) := by omega
      have HO : Hid ((wr.setCell ⟨w.heap.size, j, none⟩ (.int .u8 (48 + (m : Int) % 10))).ownsRow base 5 1 (.slice (some ⟨g, 0, none⟩) k cap) k (L.map bv)) :=
        ownsRow_below hown (HBEL.out.setCell (Nat.le_refl _) _)
      have HC : Hid (∀ t u, ((UInt8.ofNat (48 + m % 10) :: xs.drop (j + 1)).map bv)[t]? = some u → (wr.setCell ⟨w.heap.size, j, none⟩ (.int .u8 (48 + (m : Int) % 10))).cell? ((⟨w.heap.size, j, none⟩ : Addr).add t) = some u) := by
        intro t u hu
        have ht : t < 24 - j := by
          have := (List.getElem?_eq_some_iff.1 hu).1
          simp at this; omega
        rw [add_plain, HST.out.1.cellAt (j + t) (by omega), digit_byte, ← List.map_set, ← hu, ← drop_set xs j _ (by omega), List.map_drop, List.getElem?_drop]
      have HL : Hid (((UInt8.ofNat (48 + m % 10) :: xs.drop (j + 1)).map bv).length = (24 - j) * 1) := by
        show _ = _
        simp; omega
      have HB : Hid (Below w.heap.size w (wr.setCell ⟨w.heap.size, j, none⟩ (.int .u8 (48 + (m : Int) % 10)))) := HBEL.out.setCell (Nat.le_refl _) _
      have HA' : Hid (allB (UInt8.ofNat (48 + m % 10) :: xs.drop (j + 1)) = true) := by
        show _ = _
        have e : allB (UInt8.ofNat (48 + m % 10) :: xs.drop (j + 1)) = (digB (UInt8.ofNat (48 + m % 10)).toNat && allB (xs.drop (j + 1))) := by simp [allB]
        rw [e, HALL.out, digit_nat, digB_yes (by omega) (by omega)]; rfl
      have HV' : Hid (decVal (UInt8.ofNat (48 + m % 10) :: xs.drop (j + 1)) = n) := by
        show _ = _
        have e : m % 10 = m := by omega
        have e2 : (24 - (j + 1)) = (xs.drop (j + 1)).length := by simp; omega
        rw [decVal_cons, digit_nat, e, ← HVAL.out, e2]
        congr 2; omega
      clear HW0
      go_wp2_with (first
        | (at_builtin; refine wpList_append_fits _ rfl (.tmp 19) (.tmp 21) 26 rfl base 5 i0 1 Try.underlying26 hi hz1 g k cap (L.map bv) rfl HO.out ⟨w.heap.size, j, none⟩ (24 - j) (24 - j) ((UInt8.ofNat (48 + m % 10) :: xs.drop (j + 1)).map bv) rfl HL.out HC.out (bv_one _) (by omega) ?_; intro w1 hown1 hgrow1))
      go_ret
      have hlen : (UInt8.ofNat (48 + m % 10) :: xs.drop (j + 1)).length = 24 - j := by simp; omega
      refine ⟨UInt8.ofNat (48 + m % 10) :: xs.drop (j + 1), by rw [hlen]; rfl, by rw [hlen]; omega, by rw [hlen]; omega, HA'.out, HV'.out, ?_, ?_⟩
      · rw [hlen, List.map_append]; exact hown1
      · exact (HB.out.mono (by omega)).grown hgrow1 (by simp; have := HBEL.out.size; omega) (fun k hk => by cases hk; exact hg1)
    · go_wp2
      go_roundw
      case rel =>
        have e2 : (24 - (j + 1)) = (xs.drop (j + 1)).length := by simp; omega
        have e3 : 24 - j = (24 - (j + 1)) + 1 := by omega
        have e4 : (xs.set j (UInt8.ofNat (48 + m % 10))).drop j = UInt8.ofNat (48 + m % 10) :: xs.drop (j + 1) := drop_set xs j _ (by omega)
        have e5 : (m : Int) = 10 * ((m / 10 : Nat) : Int) + ((m % 10 : Nat) : Int) := by omega
        refine ⟨m / 10, j, xs.set j (UInt8.ofNat (48 + m % 10)), by go_num, rfl, by omega, by omega, by simpa using hxs, ?_, HBEL.out.setCell (Nat.le_refl _) _, ?_, ?_, ?_, .inr (by omega)⟩
        · rw [List.map_set, ← digit_byte]; exact HST.out.1
        · rw [e4]
          have e : allB (UInt8.ofNat (48 + m % 10) :: xs.drop (j + 1)) = (digB (UInt8.ofNat (48 + m % 10)).toNat && allB (xs.drop (j + 1))) := by simp [allB]
          rw [e, HALL.out, digit_nat, digB_yes (by omega) (by omega)]; rfl
        · refine Nat.le_trans ?_ HLE.out
          rw [e3, Nat.pow_succ, Nat.mul_comm _ 10, ← Nat.mul_assoc]
          exact Nat.mul_le_mul_right _ (by omega)
        · rw [e4, decVal_cons, digit_nat, e3, ← HVAL.out, ← e2, Int.pow_succ]
          generalize (10 : Int) ^ (24 - (j + 1)) = P
          have e6 : (m : Int) * P = (10 * ((m / 10 : Nat) : Int) + ((m % 10 : Nat) : Int)) * P := by rw [← e5]
          rw [e6, Int.add_mul, Int.mul_comm P 10, ← Int.mul_assoc, Int.mul_comm 10]
          have e7 : ((48 + m % 10 : Nat) : Int) - 48 = ((m % 10 : Nat) : Int) := by omega
          rw [e7]; omega
      case measure => simp [intOf]
end Go.Proofs.Qxb6601559a
