import Derived.Test.Qxb6601455aPlan1
namespace Go.Proofs.Qxb6601455a
open Go.ChangeShapes Go.WideShapes Go.ChangeAt Go.RowKit Go.Maps
open Go.Sort (swp ltInt PermIn SortedIn swo_ltInt)
set_option linter.unusedVariables false

theorem St2.after {w : World} {P K : Array Int} {pid : Int} {n Bp : Nat} {m share : Int} {g : Nat} {vF vH : Value} {wr w1 : World} (h : St2 w P K pid n Bp m share g vF vH wr) (hk : wr.grownBy w1 vH.ownBlock) :
    w1.cell? ⟨Bp, 2, none⟩ = some vH ∧ ∀ t, w1.frozen? ⟨Bp, t, none⟩ = false := by
  have hp1 : w1.heap[Bp]? = some (.cells (spCells m share vH (.slice none 0 0) (.slice none 0 0)) 37 (0, 0)) := by
    rw [hk.block _ h.sz.2 (fun e => h.sep.2 e.symm)]; exact h.p
  exact ⟨by rw [cell_of_row w1 Bp _ _ 37 (0, 0) hp1]; rfl, fun t => frozen_of_row w1 Bp t _ 37 hp1⟩
theorem own_shape {w : World} {base : Nat} {e : TypeId} {size : Nat} {v : Value} {n : Nat} {xs : List Value} (h : w.ownsRow base e size v (n + 1) xs) : ∃ g cap, v = .slice (some ⟨g, 0, none⟩) (n + 1) cap := by
  rcases h.2 with ⟨_, h2⟩ | ⟨g, cap, cur, h1, _⟩
  · omega
  · exact ⟨g, cap, h1⟩

theorem St2.rcells {w : World} {P K : Array Int} {pid : Int} {n Bp : Nat} {m share : Int} {g : Nat} {vF vH : Value} {wr : World} (h : St2 w P K pid n Bp m share g vF vH wr) :
    wr.cell? ⟨w.heap.size, 0, none⟩ = some (.int .i64 0) ∧ wr.cell? ⟨w.heap.size, 1, none⟩ = some (.int .i64 0) ∧ wr.cell? ⟨w.heap.size, 2, none⟩ = some (.slice none 0 0) ∧ wr.cell? ⟨w.heap.size, 3, none⟩ = some (.slice none 0 0) ∧ wr.cell? ⟨w.heap.size, 4, none⟩ = some (.slice none 0 0) ∧ ∀ t, wr.frozen? ⟨w.heap.size, t, none⟩ = false := by
  refine ⟨?_, ?_, ?_, ?_, ?_, fun t => frozen_of_row wr _ t _ 37 h.res⟩ <;> rw [cell_of_row wr _ _ _ 37 (0, 0) h.res] <;> rfl
theorem own_slice {w : World} {base : Nat} {e : TypeId} {size : Nat} {v : Value} {n : Nat} {xs : List Value} (h : w.ownsRow base e size v n xs) :
    (v = .slice none 0 0 ∧ n = 0) ∨ ∃ g cap, v = .slice (some ⟨g, 0, none⟩) n cap ∧ n ≤ cap ∧ cap ≤ maxLen := by
  rcases h.2 with h2 | ⟨g, cap, cur, h1, _, _, h4, h5, _⟩
  · exact .inl h2
  · exact .inr ⟨g, cap, h1, h4, h5⟩

def relL (share : Int) (held : List Int) : List Int := if share < held.length then held.drop share.toNat else []
def takeL (share : Int) (held free : List Int) : List Int := if share < held.length then [] else free.take (share - held.length).toNat

theorem own_cells {wr w9 : World} {base g cap : Nat} {l : List Int} {n : Nat} (h : wr.ownsRow base 3 1 (.slice (some ⟨g, 0, none⟩) n cap) n (l.map (Value.int .i64))) (hb : ∀ x, base ≤ x → w9.heap[x]? = wr.heap[x]?) :
    l.length = n ∧ ∀ t, t < n → w9.cell? ⟨g, t, none⟩ = some (.int .i64 (l.getD t 0)) := by
  have hl : l.length = n := by have := h.1; simpa using this
  refine ⟨hl, fun t ht => ?_⟩
  rcases h.2 with ⟨h2, _⟩ | ⟨g', cap', cur, h1, h2, h3, h4, h5, h6, h7⟩
  · simp at h2
  · simp only [Value.slice.injEq, Option.some.injEq, Addr.mk.injEq, and_true, true_and] at h1
    obtain ⟨rfl, rfl⟩ := h1
    rw [cell_of_row w9 g _ cur 3 (0, 0) ((hb g h2).trans h3)]
    have e1 : cur[t]? = (cur.toList.take (n * 1))[t]? := by rw [List.getElem?_take, if_pos (by omega)]; simp
    rw [e1, h7, List.getElem?_map, List.getElem?_eq_getElem (by omega), List.getD_eq_getElem?_getD, List.getElem?_eq_getElem (by omega)]
    rfl
theorem rd_all {wr w9 : World} {base : Nat} {v : Value} {l : List Int} (h : wr.ownsRow base 3 1 v l.length (l.map (Value.int .i64))) (hb : ∀ x, base ≤ x → w9.heap[x]? = wr.heap[x]?) : Rd64 w9 v l := by
  rcases own_slice h with ⟨rfl, h2⟩ | ⟨g, cap, rfl, _⟩
  · exact ⟨none, 0, by rw [h2], .inl (List.eq_nil_of_length_eq_zero h2)⟩
  · exact ⟨_, cap, rfl, .inr ⟨g, 0, rfl, fun t ht => by rw [Nat.zero_add]; exact (own_cells h hb).2 t ht⟩⟩
theorem rd_drop {wr w9 : World} {base g cap cap' n S : Nat} {l : List Int} (h : wr.ownsRow base 3 1 (.slice (some ⟨g, 0, none⟩) n cap) n (l.map (Value.int .i64))) (hb : ∀ x, base ≤ x → w9.heap[x]? = wr.heap[x]?) (hS : S ≤ n) : Rd64 w9 (.slice (some ⟨g, S, none⟩) (n - S) cap') (l.drop S) := by
  obtain ⟨hl, hc⟩ := own_cells h hb
  refine ⟨_, cap', by rw [List.length_drop, hl], .inr ⟨g, S, rfl, fun t ht => ?_⟩⟩
  rw [List.length_drop, hl] at ht
  rw [hc (S + t) (by omega)]
  simp [List.getD_eq_getElem?_getD]
theorem rd_take {wr w9 : World} {base g cap cap' n S : Nat} {l : List Int} (h : wr.ownsRow base 3 1 (.slice (some ⟨g, 0, none⟩) n cap) n (l.map (Value.int .i64))) (hb : ∀ x, base ≤ x → w9.heap[x]? = wr.heap[x]?) (hS : S ≤ n) : Rd64 w9 (.slice (some ⟨g, 0, none⟩) S cap') (l.take S) := by
  obtain ⟨hl, hc⟩ := own_cells h hb
  have hlt : (l.take S).length = S := by rw [List.length_take, hl]; omega
  refine ⟨_, cap', by rw [hlt], .inr ⟨g, 0, rfl, fun t ht => ?_⟩⟩
  rw [hlt] at ht
  rw [Nat.zero_add, hc t (by omega)]
  rw [List.getD_eq_getElem?_getD, List.getD_eq_getElem?_getD, List.getElem?_take, if_pos ht]
theorem rd_nil (w : World) (a : Option Addr) (cap : Nat) : Rd64 w (.slice a 0 cap) [] := ⟨a, cap, rfl, .inl rfl⟩

theorem end_world {w wr : World} {Bp : Nat} (hb : Below w.heap.size w wr) (hsz : w.heap.size < Bp) (o : Nat) (v a0 a1 a2 a3 a4 : Value) :
    (∀ x, Bp + 1 ≤ x → ((((((wr.setCell ⟨Bp, o, none⟩ v).setCell ⟨w.heap.size, 0, none⟩ a0).setCell ⟨w.heap.size, 1, none⟩ a1).setCell ⟨w.heap.size, 2, none⟩ a2).setCell ⟨w.heap.size, 3, none⟩ a3).setCell ⟨w.heap.size, 4, none⟩ a4).heap[x]? = wr.heap[x]?) ∧
    Below w.heap.size w ((((((wr.setCell ⟨Bp, o, none⟩ v).setCell ⟨w.heap.size, 0, none⟩ a0).setCell ⟨w.heap.size, 1, none⟩ a1).setCell ⟨w.heap.size, 2, none⟩ a2).setCell ⟨w.heap.size, 3, none⟩ a3).setCell ⟨w.heap.size, 4, none⟩ a4) := by
  refine ⟨fun x hx => ?_, ?_⟩
  · have e1 : x ≠ w.heap.size := by omega
    have e2 : x ≠ Bp := by omega
    rw [Below.heap_setCell _ _ _ _ e1, Below.heap_setCell _ _ _ _ e1, Below.heap_setCell _ _ _ _ e1, Below.heap_setCell _ _ _ _ e1, Below.heap_setCell _ _ _ _ e1, Below.heap_setCell _ _ _ _ e2]
  · exact (((((hb.setCell (by show w.heap.size ≤ Bp; omega) _).setCell (Nat.le_refl _) _).setCell (Nat.le_refl _) _).setCell (Nat.le_refl _) _).setCell (Nat.le_refl _) _).setCell (Nat.le_refl _) _

set_option maxRecDepth 100000 in
set_option maxHeartbeats 16000000 in
theorem plan_any (gl cap n : Nat) (P K : Array Int) (pid : Int) (w : World) (hl : Row2 w gl n P K) (hn : n ≤ 70000) (hP : n ≤ P.size) (hKs : n ≤ K.size) (hPf : Fits P) (hKf : Fits K) (hpid : -2147483648 ≤ pid ∧ pid ≤ 2147483647) :
    Calls Try.prog 14 #[.slice (some ⟨gl, 0, none⟩) n cap, .int .i32 pid] w fun e w' => ∃ vH vR vT, e = .returned (.agg #[.int .i64 ((memb P K pid n).length : Nat), .int .i64 (shareOf (memb P K pid n) pid), vH, vR, vT]) ∧
      Rd64 w' vH (heldL P K n pid 64) ∧ Rd64 w' vR (relL (shareOf (memb P K pid n) pid) (heldL P K n pid 64)) ∧ Rd64 w' vT (takeL (shareOf (memb P K pid n) pid) (heldL P K n pid 64) (freeL P K n 64)) ∧ Below w.heap.size w w' := by
  have hmm := @run_makeMap Try.prog
  obtain ⟨i0, hi, hz0, hz1, hz2⟩ := info_parts info21
  go_enter Try.func14, Try.ntmps14
  go_wp2_with fail
  go_loopw [5, 19] (fun v5 vi wr => ∃ k : Nat, vi = .int .i64 k ∧ k ≤ n ∧ St1 w P K pid k v5 wr) (fun _ vi _ => n - (intOf vi).toNat)
  case atStart => exact ⟨0, rfl, Nat.zero_le _, St1.start _ _ _ _⟩
  case round =>
    obtain ⟨k, rfl, hk, hst⟩ := hrel
    by_cases hlt : k < n
    · obtain ⟨c0, c1⟩ := (hl.below hst.bel hl.lt).cells k hlt
      have hy := hPf k (by omega)
      have hz := hKf k (by omega)
      have hmem : memb P K pid (k + 1) = memb P K pid k ++ (if K[k]! = -1 ∧ P[k]! ≠ pid then [P[k]!] else []) := rfl
      have hlast : ∀ g, lastH P K g (k + 1) = if K[k]! = g then some P[k]! else lastH P K g k := fun g => rfl
      obtain ⟨y, hye⟩ : ∃ y, P[k]! = y := ⟨_, rfl⟩
      obtain ⟨z, hze⟩ : ∃ z, K[k]! = z := ⟨_, rfl⟩
      rw [hye] at c0 hy
      rw [hze] at c1 hz
      simp only [hye, hze] at hmem hlast
      have HM : Hid _ := hmem
      have HL : Hid _ := hlast
      clear hmem hlast hye hze
      have hwk : (Lit.int .i64 z).wf = true := WalkArith.wf_i64 (by omega)
      have hwy : (Lit.int .i32 y).wf = true := WalkArith.wf_i32 (by omega)
      have hst1 := hst.alloc (Obj.cells #[.int .i32 y, .int .i32 z] 35)
      by_cases hzm : z = -1
      · by_cases hyp : y = pid
        · have hb : (y == pid) = true := by simp [hyp]
          have HY : Hid _ := hyp
          clear hyp
          have hzb : (z == -1) = true := by simp [hzm]
          have HZ : Hid _ := hzm
          clear hzm
          go_wp2_with fail
          go_roundw
          case rel => exact ⟨k + 1, by go_num, by omega, hst1.skip HZ.out HY.out HM.out HL.out⟩
          case measure => simp [intOf]; omega
        · have hb : (y == pid) = false := by simp [hyp]
          have hzb : (z == -1) = true := by simp [hzm]
          have HZ : Hid _ := hzm
          have HY : Hid _ := hyp
          clear hzm hyp
          have hst2 := hst1.alloc (Obj.cells #[.int .i32 y] 21)
          have hlen := (memb_len P K pid k).2
          have hnews : ∀ (j : Nat) (u : Value), [Value.int .i32 y][j]? = some u → ((wr.alloc (Obj.cells #[.int .i32 y, .int .i32 z] 35)).alloc (Obj.cells #[.int .i32 y] 21)).cell? ((⟨wr.heap.size + 1, 0, none⟩ : Addr).add j) = some u := by
            have := cell_one_new (wr.alloc (Obj.cells #[.int .i32 y, .int .i32 z] 35)) (.int .i32 y) 21
            rw [show (wr.alloc (Obj.cells #[.int .i32 y, .int .i32 z] 35)).heap.size = wr.heap.size + 1 from by simp] at this
            exact this
          have HNEWS : Hid _ := hnews
          clear hnews
          go_wp2_with (first
            | (at_builtin; refine wpList_append_own_at _ rfl _ _ 22 rfl (w.heap.size + 1) 21 i0 (.int .i32 0) 1 4 Try.underlying22 hi hz0 hz1 hz2 rfl (by decide) _ _ _ rfl hst2.own ⟨wr.heap.size + 1, 0, none⟩ 1 1 [.int .i32 y] rfl rfl HNEWS.out (ints_oneCell .i32 [y]) (by unfold maxLen; omega) (by omega) (by have := hst2.sz; omega) ?_; intro v1 w1 hown1 hgrow1 hnil1 hat1))
          go_roundw
          case rel => exact ⟨k + 1, by go_num, by omega, hst2.app HZ.out HY.out HM.out HL.out hown1 hgrow1 hat1⟩
          case measure => simp [intOf]; omega
      · have hb : (z == -1) = false := by simp [hzm]
        have HZ : Hid _ := hzm
        clear hzm
        obtain ⟨D, hown, hism, hv⟩ := hst1.hold
        have HV : Hid _ := hv
        clear hv
        go_wp2_with (first
          | (at_mapUpdate; refine wpList_mapUpdate_own _ rfl _ _ _ 39 rfl 3 21 law3 Try.underlying39 _ (w.heap.size + 2) k _ rfl hown (by unfold maxLen; omega) _ _ _ rfl rfl (keyOf_int_mk Try.underlying3 hwk) _ [] (plainElem_int Try.underlying21 hwy) ?_; intro w1 hown1 hgrow1)
          | go_in)
        go_roundw
        case rel => exact ⟨k + 1, by go_num, by omega, hst1.map HZ.out HM.out HL.out hism HV.out hown1 hgrow1⟩
        case measure => simp [intOf]; omega
    · obtain rfl : k = n := by omega
      obtain ⟨g5, cap5, rfl, hr5, hg5, hg5n⟩ := hst.row
      have hm2 := memb_len P K pid k
      have hpid5 := memb_pid P K pid k
      obtain ⟨L, hL⟩ : ∃ L, memb P K pid k = L := ⟨_, rfl⟩
      rw [hL] at hr5 hm2 hpid5
      rw [hL]
      have HL : Hid _ := hL
      clear hL
      obtain ⟨m, hm⟩ : ∃ m, L.length = m := ⟨_, rfl⟩
      have c := sort_any g5 cap5 L.toArray _ hr5 (by simp; omega)
      rw [List.size_toArray] at c
      rw [hm] at c hm2
      rw [hm]
      have HM : Hid _ := hm
      clear hm
      go_wp2_with fail
      go_at_call 15
      refine c.mono ?_
      rintro e w2 ⟨rfl, k2, d2, hr2, hp2, hs2⟩
      have hrank := rank_found L d2 pid hpid5 (by rw [HM.out]; exact hp2) (by rw [HM.out]; exact hs2)
      rw [HM.out] at hrank
      obtain ⟨hrk1, hrk2, hrk3⟩ := hrank
      obtain ⟨r, hr⟩ : ∃ r, rankOf L pid = r := ⟨_, rfl⟩
      rw [hr] at hrk1 hrk2 hrk3
      have hd2 : d2.size = m := by have := hp2.1; rw [this, List.size_toArray, HM.out]
      have hst2 := fun s => St2.start hst hg5 hg5n k2 (m : Int) s
      obtain ⟨q, hq⟩ : ∃ q : Nat, (64 : Int) / m = q := ⟨64 / m, by rw [Int.natCast_ediv]; rfl⟩
      obtain ⟨rm, hrm⟩ : ∃ rm : Nat, (64 : Int) % m = rm := ⟨64 % m, by rw [Int.natCast_emod]; rfl⟩
      have HS : Hid (shareOf L pid = (q : Int) + if r < rm then 1 else 0) := by
        show _ = _
        unfold shareOf
        rw [HM.out, hr, hq, hrm]
        by_cases e : r < rm
        · rw [if_pos e, if_pos (by omega)]
        · rw [if_neg e, if_neg (by omega)]
      clear hr c hr5 hpid5
      have ci : ∀ (wz : World), RowA wz g5 d2 → Calls Try.prog 16 #[.slice (some ⟨g5, 0, none⟩) m cap5, .int .i32 pid] wz fun e w' => e = .returned (.int .i64 r) ∧ w' = wz := by
        intro wz hwz
        have := index_any g5 cap5 d2 pid r wz hwz (by omega) (by omega) hrk2 hrk3
        rw [hd2] at this
        exact this
      have CI : Hid _ := ci
      clear ci
      have HP2 : Hid _ := hp2
      have HRK3 : Hid _ := hrk3
      clear hp2 hrk3 hs2 hrk2
      have hqb : q ≤ 64 := by
        have := Int.ediv_le_self (a := 64) (b := (m : Int)) (by omega)
        omega
      go_upto_region 13 with fail
      go_quiet ((go_at_call 16; exact Calls.quiet_of_same (CI.out _ ((hr2.alloc _).drewN _))))
      clear CI
      go_upto_if 58 with fail
      go_cut [] (fun wx => St2 w P K pid k w2.heap.size m (shareOf L pid) 0 (.slice none 0 0) (.slice none 0 0) wx)
      case first =>
        by_cases hrr : r < rm
        · go_wp2_with fail
          go_meet
          case rel =>
            rw [HS.out, if_pos hrr]
            exact ((hst2 _).drewN _).share _
        · go_wp2_with fail
          go_meet
          case rel =>
            rw [HS.out, if_neg hrr, Int.add_zero]
            exact (hst2 _).drewN _
      case rest =>
        clear hst hst2 hr2 k2
        have hst := hcut
        clear hcut
        obtain ⟨S, hS⟩ : ∃ S : Nat, shareOf L pid = (S : Int) := ⟨q + if r < rm then 1 else 0, by rw [HS.out]; split <;> simp⟩
        have hSb : S ≤ 65 := by
          have := HS.out
          rw [hS] at this
          split at this <;> omega
        rw [hS] at hst
        have HSS : Hid _ := hS
        clear hS HS hrm hq hqb
        obtain ⟨Bp, hBp⟩ : ∃ Bp, w2.heap.size = Bp := ⟨_, rfl⟩
        rw [hBp] at hst
        rw [hBp]
        clear hBp
        obtain ⟨i3, hi3, hz30, hz31, hz32⟩ := info_parts info3
        go_wp2_with fail
        go_loopw [10, 63] (fun v10 vi wr => ∃ (g : Nat) (vH : Value), vi = .int .i64 g ∧ g ≤ 64 ∧ St2 w P K pid k Bp m S g v10 vH wr) (fun _ vi _ => 64 - (intOf vi).toNat)
        case atStart => exact ⟨0, _, rfl, by omega, hst⟩
        case round =>
          clear hst
          obtain ⟨g, vH, rfl, hg64, hst⟩ := hrel
          by_cases hglt : g < 64
          · obtain ⟨D, hown, hism, hv⟩ := hst.hold
            obtain ⟨hv1, hv2⟩ : Maps.has D (.int .i64 (g : Int)) = (lastH P K (g : Int) k).isSome ∧ ∀ c, lastH P K (g : Int) k = some c → D.atKey (.int .i64 (g : Int)) (.lit (.int .i32 0)) = .lit (.int .i32 c) := hv (g : Int) (by omega)
            have hwk : (Lit.int .i64 (g : Int)).wf = true := WalkArith.wf_i64 (by omega)
            have hfl := freeL_len P K k g
            have hhl := heldL_len P K k pid g
            obtain ⟨p0, p1, p2, p3, p4, pf⟩ := hst.cells
            have HV2 : Hid _ := hv2
            clear hv hv2
            cases hlast : lastH P K (g : Int) k with
            | none =>
              rw [hlast] at hv1
              have hh : Maps.has D (.int .i64 (g : Int)) = false := hv1
              have HLA : Hid _ := hlast
              clear hv1 hlast
              have hst2 := hst.alloc (Obj.cells #[.int .i64 (g : Int)] 3)
              have HNEWS : Hid _ := cell_one_new wr (.int .i64 (g : Int)) 3
              go_wp2_with (first
                | (at_lookup; refine wpList_lookup_own_ok_int _ rfl _ _ 39 rfl 3 21 .i32 law3 Try.underlying39 Try.underlying21 (zero21 _) (w.heap.size + 2) k D rfl hown _ _ rfl (keyOf_int_mk Try.underlying3 hwk) ?_; intro c hat hwc)
                | (at_builtin; refine wpList_append_own_at _ rfl _ _ 25 rfl (Bp + 1) 3 i3 (.int .i64 0) 1 8 Try.underlying25 hi3 hz30 hz31 hz32 rfl (by decide) _ _ _ rfl hst2.ownF ⟨wr.heap.size, 0, none⟩ 1 1 [.int .i64 (g : Int)] rfl rfl HNEWS.out (ints_oneCell .i64 [(g : Int)]) (by unfold maxLen; omega) (by omega) (by have := hst2.sz; omega) ?_; intro v1 w1 hown1 hgrow1 hnil1 hat1)
                | go_in)
              go_roundw
              case rel => exact ⟨g + 1, vH, by go_num, by omega, hst2.free HLA.out hown1 hgrow1 hat1⟩
              case measure => simp [intOf]; omega
            | some h0 =>
              rw [hlast] at hv1
              have hh : Maps.has D (.int .i64 (g : Int)) = true := hv1
              have HLA : Hid _ := hlast
              clear hv1 hlast
              have HC : Hid (∀ c, D.atKey (.int .i64 (g : Int)) (.lit (.int .i32 0)) = .lit (.int .i32 c) → c = h0) := by
                show ∀ c, _ → _
                intro c hc
                have := hc.symm.trans (HV2.out _ HLA.out)
                injection this with this
                injection this
              by_cases hp0 : h0 = pid
              · have HP0 : Hid _ := hp0
                clear hp0
                have hst2 := hst.alloc (Obj.cells #[.int .i64 (g : Int)] 3)
                have HNEWS : Hid _ := cell_one_new wr (.int .i64 (g : Int)) 3
                go_wp2_with (first
                  | (at_lookup; refine wpList_lookup_own_ok_int _ rfl _ _ 39 rfl 3 21 .i32 law3 Try.underlying39 Try.underlying21 (zero21 _) (w.heap.size + 2) k D rfl hown _ _ rfl (keyOf_int_mk Try.underlying3 hwk) ?_; intro c hat hwc; have hcb : (c == pid) = true := by (rw [HC.out c hat, HP0.out]; simp))
                  | (at_builtin; refine wpList_append_own_at _ rfl _ _ 25 rfl (Bp + 1) 3 i3 (.int .i64 0) 1 8 Try.underlying25 hi3 hz30 hz31 hz32 rfl (by decide) _ _ _ rfl hst2.ownH ⟨wr.heap.size, 0, none⟩ 1 1 [.int .i64 (g : Int)] rfl rfl HNEWS.out (ints_oneCell .i64 [(g : Int)]) (by unfold maxLen; omega) (by omega) (by have := hst2.sz; omega) ?_; intro v1 w1 hown1 hgrow1 hnil1 hat1; obtain ⟨q2, qf⟩ := hst2.after hgrow1; obtain ⟨g1, cap1, rfl⟩ := own_shape hown1)
                  | go_in)
                go_roundw
                case rel => exact ⟨g + 1, _, by go_num, by omega, hst2.held (by rw [HLA.out, HP0.out]) hown1 hgrow1 hat1⟩
                case measure => simp [intOf]; omega
              · have HP0 : Hid _ := hp0
                clear hp0
                go_wp2_with (first
                  | (at_lookup; refine wpList_lookup_own_ok_int _ rfl _ _ 39 rfl 3 21 .i32 law3 Try.underlying39 Try.underlying21 (zero21 _) (w.heap.size + 2) k D rfl hown _ _ rfl (keyOf_int_mk Try.underlying3 hwk) ?_; intro c hat hwc; have hcb : (c == pid) = false := by (rw [HC.out c hat]; simpa using HP0.out))
                  | go_in)
                go_roundw
                case rel => exact ⟨g + 1, vH, by go_num, by omega, hst.skip (by rw [HLA.out]; simp) (by rw [HLA.out]; simpa using HP0.out)⟩
                case measure => simp [intOf]; omega
          · obtain rfl : g = 64 := by omega
            have hfl := freeL_len P K k 64
            have hhl := heldL_len P K k pid 64
            obtain ⟨p0, p1, p2, p3, p4, pf⟩ := hst.cells
            obtain ⟨r0, r1, r2, r3, r4, rf⟩ := hst.rcells
            have hbn : w.heap.size ≠ Bp := by have := hst.sz; omega
            have hoF := own_slice hst.ownF
            have hoH := own_slice hst.ownH
            obtain ⟨nf, hnf⟩ : ∃ nf, (freeL P K k 64).length = nf := ⟨_, rfl⟩
            obtain ⟨nh, hnh⟩ : ∃ nh, (heldL P K k pid 64).length = nh := ⟨_, rfl⟩
            rw [hnf] at hfl hoF
            rw [hnh] at hhl hoH
            have HNF : Hid _ := hnf
            have HNH : Hid _ := hnh
            clear hnf hnh
            have hst3 := hst
            by_cases hrel : S < nh
            · obtain ⟨gH, capH, rfl, hcH1, hcH2⟩ := hoH.resolve_left (fun e => by omega)
              unfold maxLen at hcH2
              go_wp2_with fail
              (try simp only [Exit.inBlock, Exit.then])
              refine bodyPost_ret (v := .agg #[.int .i64 m, .int .i64 S, .slice (some ⟨gH, 0, none⟩) nh capH, .slice (some ⟨gH, S, none⟩) (nh - S) (capH - S), .slice none 0 0]) (by simp [results, Try.f14, go_sem, r0, r1, r2, r3, r4]) rfl ?_
              have hsz := hst.sz
              obtain ⟨hbl, hbelow⟩ := end_world hst.bel (Bp := Bp) (by omega) 3 (.slice (some ⟨gH, S, none⟩) (nh - S) (capH - S)) (.int .i64 m) (.int .i64 S) (.slice (some ⟨gH, 0, none⟩) nh capH) (.slice (some ⟨gH, S, none⟩) (nh - S) (capH - S)) (.slice none 0 0)
              have hoH2 := hst.ownH
              refine ⟨_, _, _, by rw [HL.out, HM.out, HSS.out], rd_all hoH2 hbl, ?_, ?_, hbelow⟩
              · rw [HL.out, HSS.out]
                unfold relL
                rw [if_pos (by rw [HNH.out]; omega), Int.toNat_natCast]
                rw [HNH.out] at hoH2
                exact rd_drop hoH2 hbl (by omega)
              · rw [HL.out, HSS.out]
                unfold takeL
                rw [if_pos (by rw [HNH.out]; omega)]
                exact rd_nil _ _ _
            · obtain ⟨aH, capH, hvH⟩ : ∃ aH capH, vH = .slice aH nh capH := by
                rcases hoH with ⟨h1, h2⟩ | ⟨g, cap, h1, _⟩
                · exact ⟨none, 0, by rw [h1, h2]⟩
                · exact ⟨_, _, h1⟩
              subst hvH
              obtain ⟨rm1, hrm1⟩ : ∃ rm1 : Nat, (S : Int) - nh = rm1 := ⟨S - nh, by omega⟩
              have hTL : takeL (S : Int) (heldL P K k pid 64) (freeL P K k 64) = (freeL P K k 64).take rm1 := by
                unfold takeL
                rw [if_neg (by rw [HNH.out]; omega), HNH.out, hrm1, Int.toNat_natCast]
              have HTL : Hid _ := hTL
              clear hTL
              rcases hoF with ⟨rfl, hnf0⟩ | ⟨gF, capF, rfl, hcF1, hcF2⟩
              · subst hnf0
                go_wp2_with fail
                have hT : (min (0 : Int) (rm1 : Int)).toNat = 0 := by omega
                rw [hT]
                (try simp only [Exit.inBlock, Exit.then])
                refine bodyPost_ret (v := .agg #[.int .i64 m, .int .i64 S, .slice aH nh capH, .slice none 0 0, .slice none 0 0]) (by simp [results, Try.f14, go_sem, r0, r1, r2, r3, r4]) rfl ?_
                have hsz := hst.sz
                obtain ⟨hbl, hbelow⟩ := end_world hst.bel (Bp := Bp) (by omega) 4 (.slice none 0 0) (.int .i64 m) (.int .i64 S) (.slice aH nh capH) (.slice none 0 0) (.slice none 0 0)
                refine ⟨_, _, _, by rw [HL.out, HM.out, HSS.out], rd_all hst.ownH hbl, ?_, ?_, hbelow⟩
                · rw [HL.out, HSS.out]
                  unfold relL
                  rw [if_neg (by rw [HNH.out]; omega)]
                  exact rd_nil _ _ _
                · rw [HL.out, HSS.out, HTL.out]
                  rw [List.eq_nil_of_length_eq_zero HNF.out]
                  rw [List.take_nil]
                  exact rd_nil _ _ _
              · unfold maxLen at hcF2
                go_wp2_with fail
                obtain ⟨T, hT⟩ : ∃ T, (min (nf : Int) (rm1 : Int)).toNat = T := ⟨_, rfl⟩
                rw [hT]
                have HT : Hid _ := hT
                clear hT
                (try simp only [Exit.inBlock, Exit.then])
                refine bodyPost_ret (v := .agg #[.int .i64 m, .int .i64 S, .slice aH nh capH, .slice none 0 0, .slice (some ⟨gF, 0, none⟩) T capF]) (by simp [results, Try.f14, go_sem, r0, r1, r2, r3, r4]) rfl ?_
                have hsz := hst.sz
                obtain ⟨hbl, hbelow⟩ := end_world hst.bel (Bp := Bp) (by omega) 4 (.slice (some ⟨gF, 0, none⟩) T capF) (.int .i64 m) (.int .i64 S) (.slice aH nh capH) (.slice none 0 0) (.slice (some ⟨gF, 0, none⟩) T capF)
                have hoF2 := hst.ownF
                refine ⟨_, _, _, by rw [HL.out, HM.out, HSS.out], rd_all hst.ownH hbl, ?_, ?_, hbelow⟩
                · rw [HL.out, HSS.out]
                  unfold relL
                  rw [if_neg (by rw [HNH.out]; omega)]
                  exact rd_nil _ _ _
                · rw [HL.out, HSS.out, HTL.out]
                  rw [HNF.out] at hoF2
                  have e1 : T = min rm1 nf := by have := HT.out; omega
                  have e2 : (freeL P K k 64).take rm1 = (freeL P K k 64).take T := by
                    rw [e1, ← HNF.out, ← List.take_eq_take_min]
                  rw [e2]
                  exact rd_take hoF2 hbl (by omega)
end Go.Proofs.Qxb6601455a
