import Derived.Test.Qxb6601559aApp
import Derived.Laws.IdiomStrings
namespace Go.Proofs.Qxb6601559a
open Go.ChangeShapes Go.WideShapes Go.ChangeAt Go.RowKit
set_option linter.unusedVariables false

theorem reads_out (n lead : Int) (w : World) (h : n < 0 ∨ lead < 0 ∨ 65536 < lead) :
    Calls Try.prog 4 #[.int .i64 n, .int .i64 lead] w fun e w' => e = .returned (.bool true) ∧ w' = w := by
  by_cases h1 : n < 0
  · go_enter Try.func4, Try.ntmps4
    go_wp2
    go_ret
    exact ⟨rfl, rfl⟩
  · by_cases h2 : lead < 0
    · go_enter Try.func4, Try.ntmps4
      go_wp2
      go_ret
      exact ⟨rfl, rfl⟩
    · have h3 : 65536 < lead := by omega
      clear h
      go_enter Try.func4, Try.ntmps4
      go_wp2
      go_ret
      exact ⟨rfl, rfl⟩

theorem allB_zeros (k : Nat) (T : List UInt8) : allB (List.replicate k 48 ++ T) = allB T := by
  simp [allB, digB]

theorem decVal_zeros (k : Nat) (T : List UInt8) : decVal (List.replicate k 48 ++ T) = decVal T := by
  induction k with
  | zero => rfl
  | succ k ih => rw [List.replicate_succ, List.cons_append, decVal_cons, ih]; simp

theorem wrap64_small (n : Nat) (h : n < 9223372036854775808) : wrap64 (n : Int) = n := by
  unfold wrap64; omega

/-- What 'string(text)' gives, and what 'number' then answers. -/
theorem conv_back (g k cap n : Nat) (T : List UInt8) (w : World) (hn : n < 9223372036854775808) (hk : k ≤ 65536) (h0 : 0 < T.length) (h1 : T.length ≤ 24) (hA : allB T = true) (hV : decVal T = n)
    (ho : w.ownsRow g 5 1 (.slice (some ⟨g, 0, none⟩) (k + T.length) cap) (k + T.length) ((List.replicate k 48 ++ T).map bv)) :
    ∃ S : ByteArray, (convert 26 9 (.slice (some ⟨g, 0, none⟩) (k + T.length) cap)).run Try.prog w = .ok (.string S) w ∧ Hid (S.size ≤ maxLen) ∧ Hid (numV S.data.toList = n) ∧ Hid (numOk S.data.toList = true) := by
  have hl : (List.replicate k (48 : UInt8) ++ T).length = k + T.length := by simp
  refine ⟨⟨(List.replicate k 48 ++ T).toArray⟩, ?_, ?_, ?_, ?_⟩
  · have := run_convert_bytes_back (P := Try.prog) w 26 9 5 ⟨g, 0, none⟩ cap (List.replicate k 48 ++ T) Try.underlying26 Try.underlying5 Try.underlying9 (fun j hj => by
      rw [add_plain, Nat.zero_add, ho.cellAt j (by omega), List.getElem?_map, List.getElem?_eq_getElem hj]; rfl)
    rw [hl] at this; exact this
  · show ByteArray.size _ ≤ maxLen
    rw [← ByteArray.size_data]
    simp only [List.size_toArray, hl]; unfold maxLen; omega
  · show numV _ = _
    simp only [numV]
    rw [if_pos ⟨by simp; omega, by rw [allB_zeros]; exact hA⟩, decVal_zeros, hV, wrap64_small n hn]
  · show numOk _ = _
    simp only [numOk]
    rw [allB_zeros, hA, hl]; simp; omega

set_option maxHeartbeats 1000000 in
theorem reads_in (n lead : Nat) (w : World) (hn : n < 9223372036854775808) (hl : lead ≤ 65536) :
    Calls Try.prog 4 #[.int .i64 n, .int .i64 lead] w fun e w' => e = .returned (.bool true) ∧ Below w.heap.size w w' := by
  obtain ⟨i0, hi, hz0, hz1, hz2⟩ := info_parts info5
  have HN : Hid (n < 9223372036854775808) := hn
  go_enter Try.func4, Try.ntmps4
  go_wp2_with (first
    | (at_make; refine wpList_make_own _ rfl _ _ 26 rfl w.heap.size 5 i0 (.int .u8 0) 1 Try.underlying26 hi hz0 hz1 .i64 .i64 _ (lead + 24) rfl rfl (by omega) (by rw [hz2]; omega) (by unfold maxLen; omega) (Nat.le_refl _) ?_; intro w1 hown1 hgrow1))
  have hb1 : Below w.heap.size w w1 := (Below.refl _ _).grown hgrow1 (Nat.le_refl _) (fun k hk => by cases hk)
  go_loopw [5, 6] (fun v i wr => ∃ k : Nat, k ≤ lead ∧ i = .int .i64 k ∧ v = .slice (some ⟨w.heap.size, 0, none⟩) k (lead + 24) ∧
      wr.ownsRow w.heap.size 5 1 (.slice (some ⟨w.heap.size, 0, none⟩) k (lead + 24)) k ((List.replicate k (48 : UInt8)).map bv) ∧ Below w.heap.size w wr) (fun _ i _ => lead - (intOf i).toNat)
  case atStart => exact ⟨0, Nat.zero_le _, rfl, rfl, hown1, hb1⟩
  case round =>
    obtain ⟨k, hk, rfl, rfl, hrow, hbel⟩ := hrel
    clear hown1 hgrow1 hb1
    by_cases hlt : k < lead
    · go_wp2_with (first
        | (at_builtin; refine wpList_append_fits _ rfl _ _ 26 rfl w.heap.size 5 i0 1 Try.underlying26 hi hz1 w.heap.size k (lead + 24) ((List.replicate k (48 : UInt8)).map bv) rfl (hrow.alloc _) ⟨wr.heap.size, 0, none⟩ 1 1 [.int .u8 48] rfl rfl ?c1 ?c2 (by omega) ?_))
      case c1 =>
        intro j u hj
        match j, hj with
        | 0, hj => simp at hj; subst hj; simp [Addr.add]
      case c2 => intro u hu; simp at hu; subst hu; rfl
      intro w2 hown2 hgrow2
      go_wp2
      go_roundw
      case rel =>
        refine ⟨k + 1, by omega, by go_num, rfl, ?_, ?_⟩
        · rw [List.replicate_succ', List.map_append, List.map_replicate]; exact hown2
        · exact (hbel.alloc hbel.size _).grown hgrow2 (by simp; have := hbel.size; omega) (fun k hk => by cases hk; exact Nat.le_refl _)
      case measure => simp [intOf]; omega
    · obtain rfl : k = lead := by omega
      go_wp2_with (first
        | (go_at_call 10; refine (appendDecimal_any w.heap.size w.heap.size k (k + 24) n (List.replicate k 48) _ HN.out hrow (by omega)).mono ?_; rintro e w3 ⟨T, rfl, ht0, ht1, htA, htV, htO, htB⟩; obtain ⟨S, hcv, HM, E1, E2⟩ := conv_back w.heap.size k (k + 24) n T w3 HN.out hl ht0 ht1 htA htV htO; clear htV htA)
        | (go_at_call 9; refine (zznumber_any _ _ HM.out).mono ?_; rw [E1.out, E2.out]; rintro e w' ⟨rfl, rfl⟩))
      go_ret
      exact ⟨rfl, hbel.trans htB⟩
end Go.Proofs.Qxb6601559a
