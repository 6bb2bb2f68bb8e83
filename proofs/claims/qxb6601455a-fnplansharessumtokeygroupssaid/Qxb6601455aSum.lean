import Derived.Test.Qxb6601455aTwo
namespace Go.Proofs.Qxb6601455a
open Go.ChangeShapes Go.WideShapes Go.ChangeAt Go.RowKit Go.Maps
set_option linter.unusedVariables false

theorem rd_cell {wc wr : World} {a : Option Addr} {d : Array Int} (h : Rd32 wc a d) (hb : Below wc.heap.size wc wr) (t : Nat) (ht : t < d.size) : ∃ g, a = some ⟨g, 0, none⟩ ∧ wr.cell? ⟨g, t, none⟩ = some (.int .i32 d[t]!) := by
  obtain ⟨g, h1, h2⟩ := h.pos (by omega)
  exact ⟨g, h1, (h2.below hb h2.lt).cell t ht⟩

theorem memL_skip (P K : Array Int) (k : Nat) (h : K[k]! ≠ -1) : memL P K (k + 1) = memL P K k := by simp [memL, h]
theorem memL_add (P K : Array Int) (k : Nat) (h : K[k]! = -1) : memL P K (k + 1) = memL P K k ++ [P[k]!] := by simp [memL, h]
theorem nodup_add (P K : Array Int) (k : Nat) (h : K[k]! = -1) (hd : (memL P K k).Nodup) (hn : ∀ t, t < k → K[t]! = -1 → P[t]! ≠ P[k]!) : (memL P K (k + 1)).Nodup := by
  rw [memL_add P K k h, List.nodup_append]
  refine ⟨hd, by simp, ?_⟩
  intro a ha b hb
  simp at hb
  obtain ⟨t, h1, h2, h3⟩ := (memL_mem P K k a).1 ha
  subst hb
  rw [← h3]; exact hn t h1 h2

theorem share_bound (l : List Int) (p : Int) : 0 ≤ shareOf l p ∧ shareOf l p ≤ 65 := by
  have h1 := Int.ediv_nonneg (a := 64) (b := (l.length : Int)) (by omega) (by omega)
  have h2 := Int.ediv_le_self (a := 64) (b := (l.length : Int)) (by omega)
  have := share_two l p
  omega
theorem sum_bound (l L : List Int) : 0 ≤ (l.map (shareOf L)).sum ∧ (l.map (shareOf L)).sum ≤ 65 * l.length := by
  induction l with
  | nil => simp
  | cons a l ih =>
    have := share_bound L a
    rw [List.map_cons, List.sum_cons, List.length_cons]
    omega

set_option maxRecDepth 100000 in
set_option maxHeartbeats 16000000 in
theorem sum_in (a0 a1 : Option Addr) (cap0 cap1 n : Nat) (P K : Array Int) (w : World) (h0 : Came w a0 n cap0 P) (h1 : Came w a1 n cap1 K) (hn : n ≤ 4096) :
    Calls Try.prog 4 #[.slice a0 n cap0, .slice a1 n cap1] w fun e w' => e = .returned (.bool true) ∧ Below w.heap.size w w' := by
  have HP : Hid (P.size = n) := h0.1.symm
  have HK : Hid (K.size = n) := h1.1.symm
  have hPf := h0.2.1
  have hKf := h1.2.1
  have cl0 := clone_any a0 n cap0 P w h0 (by omega)
  have cl1 := fun w' hb => clone_any a1 n cap1 K w' (h1.below hb) (by omega)
  rw [HP.out] at cl0
  rw [HK.out] at cl1
  go_enter Try.func4, Try.ntmps4
  go_upto_region 7 with (go_at_call 11; refine (zz4_in _ _ _ _ _ _ _ (by omega) (by omega)).mono ?_; rintro e w' ⟨rfl, rfl⟩)
  go_upto_region 8 with (go_at_call 7; refine cl0.mono ?_; rintro e wb ⟨b0, c0, rfl, rP, hb0⟩)
  go_wp2_with (go_at_call 7; refine (cl1 _ hb0).mono ?_; rintro e wc ⟨b1, c1, rfl, rK, hb1⟩)
  have rP := rP.below hb1
  have hbc := hb0.trans (hb1.mono hb0.size)
  clear cl0 cl1 hb0 hb1 h0 h1
  go_loopw [5] (fun vi wr => ∃ i : Nat, i ≤ n ∧ vi = .int .i64 i ∧ (memL P K i).Nodup ∧ Below wc.heap.size wc wr) (fun vi _ => n - (intOf vi).toNat)
  case atStart => exact ⟨0, Nat.zero_le _, rfl, by simp [memL], Below.refl _ _⟩
  case round =>
    obtain ⟨i, hi, rfl, hnd, hb⟩ := hrel
    by_cases hlt : i < n
    · obtain ⟨g1, rfl, cK⟩ := rd_cell rK hb i (by have := HK.out; omega)
      obtain ⟨g0, rfl, cP⟩ := rd_cell rP hb i (by have := HP.out; omega)
      obtain ⟨z, hz⟩ : ∃ z, K[i]! = z := ⟨_, rfl⟩
      obtain ⟨y, hy⟩ : ∃ y, P[i]! = y := ⟨_, rfl⟩
      rw [hz] at cK
      rw [hy] at cP
      have HZ : Hid _ := hz
      have HY : Hid _ := hy
      clear hz hy
      by_cases hm : z = -1
      · have hzb : (z == -1) = true := by simp [hm]
        have HM : Hid _ := hm
        clear hm
        go_wp2_with fail
        go_loopw [6] (fun vj wr2 => ∃ j : Nat, j ≤ i ∧ vj = .int .i64 j ∧ (∀ t, t < j → K[t]! = -1 → P[t]! ≠ y) ∧ Below wc.heap.size wc wr2) (fun vj _ => i - (intOf vj).toNat)
        case atStart => exact ⟨0, Nat.zero_le _, rfl, fun t ht => by omega, hb⟩
        case round =>
          obtain ⟨j, hj, rfl, hne, hb2⟩ := hrel
          have HNE : Hid _ := hne
          clear hne
          by_cases hjl : j < i
          · obtain ⟨_, e1, dK⟩ := rd_cell rK hb2 j (by have := HK.out; omega)
            cases e1
            obtain ⟨_, e1, dP⟩ := rd_cell rP hb2 j (by have := HP.out; omega)
            cases e1
            obtain ⟨_, e1, eP⟩ := rd_cell rP hb2 i (by have := HP.out; omega)
            cases e1
            rw [HY.out] at eP
            obtain ⟨z2, hz2⟩ : ∃ z, K[j]! = z := ⟨_, rfl⟩
            obtain ⟨y2, hy2⟩ : ∃ y, P[j]! = y := ⟨_, rfl⟩
            rw [hz2] at dK
            rw [hy2] at dP
            have HZ2 : Hid _ := hz2
            have HY2 : Hid _ := hy2
            clear hz2 hy2
            by_cases hq : z2 = -1
            · have hqb : (z2 == -1) = true := by simp [hq]
              have HQ : Hid _ := hq
              clear hq
              by_cases hy3 : y2 = y
              · have hyb : (y2 == y) = true := by simp [hy3]
                have HY3 : Hid _ := hy3
                clear hy3
                go_upto_region 16 with fail
                go_quiet (fail)
                go_wp2_with fail
                go_ret
                exact ⟨rfl, hbc.trans ((below_drewN hb2 _).mono hbc.size)⟩
              · have hyb : (y2 == y) = false := by simp [hy3]
                have HY3 : Hid _ := hy3
                clear hy3
                go_upto_region 16 with fail
                go_quiet (fail)
                go_wp2_with fail
                go_roundw
                case rel =>
                  refine ⟨j + 1, by omega, by go_num, fun t ht hk => ?_, below_drewN hb2 _⟩
                  by_cases e : t = j
                  · subst e; rw [HY2.out]; exact HY3.out
                  · exact HNE.out t (by omega) hk
                case measure => simp [intOf]; omega
            · have hqb : (z2 == -1) = false := by simp [hq]
              have HQ : Hid _ := hq
              clear hq
              go_upto_region 16 with fail
              go_quiet (fail)
              go_wp2_with fail
              go_roundw
              case rel =>
                refine ⟨j + 1, by omega, by go_num, fun t ht hk => ?_, below_drewN hb2 _⟩
                by_cases e : t = j
                · subst e; rw [HZ2.out] at hk; exact absurd hk HQ.out
                · exact HNE.out t (by omega) hk
              case measure => simp [intOf]; omega
          · obtain rfl : j = i := by omega
            go_wp2_with fail
            go_roundw
            case rel =>
              refine ⟨j + 1, by omega, by go_num, nodup_add P K j (by rw [HZ.out]; exact HM.out) hnd (by rw [HY.out]; exact HNE.out), hb2⟩
            case measure => simp [intOf]; omega
      · have hzb : (z == -1) = false := by simp [hm]
        have HM : Hid _ := hm
        clear hm
        go_wp2_with fail
        go_roundw
        case rel => exact ⟨i + 1, by omega, by go_num, by rw [memL_skip P K i (by rw [HZ.out]; exact HM.out)]; exact hnd, hb⟩
        case measure => simp [intOf]; omega
    · obtain rfl : i = n := by omega
      go_wp2_with fail
      go_loopw [7, 8] (fun vm vi wr => ∃ k : Nat, k ≤ i ∧ vi = .int .i64 k ∧ vm = .int .i64 (memL P K k).length ∧ Below wc.heap.size wc wr) (fun _ vi _ => i - (intOf vi).toNat)
      case atStart => exact ⟨0, Nat.zero_le _, rfl, rfl, hb⟩
      case round =>
        clear hb
        obtain ⟨k, hk, rfl, rfl, hb⟩ := hrel
        by_cases hkl : k < i
        · obtain ⟨g1, rfl, cK⟩ := rd_cell rK hb k (by have := HK.out; omega)
          obtain ⟨z, hz⟩ : ∃ z, K[k]! = z := ⟨_, rfl⟩
          have hml := memL_len P K k
          obtain ⟨m, hm⟩ : ∃ m, (memL P K k).length = m := ⟨_, rfl⟩
          rw [hm] at hml
          rw [hm]
          have HM : Hid _ := hm
          clear hm
          rw [hz] at cK
          have HZ : Hid _ := hz
          clear hz
          by_cases hm : z = -1
          · have hzb : (z == -1) = true := by simp [hm]
            have HQ : Hid _ := hm
            clear hm
            go_wp2_with fail
            go_roundw
            case rel => exact ⟨k + 1, by omega, by go_num, by rw [memL_add P K k (by rw [HZ.out]; exact HQ.out), List.length_append, HM.out]; go_num, hb⟩
            case measure => simp [intOf]; omega
          · have hzb : (z == -1) = false := by simp [hm]
            have HQ : Hid _ := hm
            clear hm
            go_wp2_with fail
            go_roundw
            case rel => exact ⟨k + 1, by omega, by go_num, by rw [memL_skip P K k (by rw [HZ.out]; exact HQ.out), HM.out], hb⟩
            case measure => simp [intOf]; omega
        · obtain rfl : k = i := by omega
          have hml := memL_len P K k
          obtain ⟨m, hm⟩ : ∃ m, (memL P K k).length = m := ⟨_, rfl⟩
          rw [hm] at hml
          rw [hm]
          have HM : Hid _ := hm
          have HND : Hid _ := hnd
          clear hm hnd
          have hsz := hb.size
          by_cases hm0 : m = 0
          · go_wp2_with fail
            go_ret
            exact ⟨rfl, hbc.trans (hb.mono hbc.size)⟩
          · obtain ⟨i21, hi, hz0, hz1, hz2⟩ := info_parts info21
            obtain ⟨i3, hi3, hz30, hz31, hz32⟩ := info_parts info3
            go_upto_region 27 with (at_make; refine wpList_make_own _ rfl _ _ 22 rfl wc.heap.size 21 i21 _ 1 Try.underlying22 hi hz0 hz1 .i64 .i64 _ m rfl rfl (by omega) (by rw [hz2]; omega) (by unfold maxLen; omega) hsz ?_; intro w1 hown1 hgrow1)
            have hgs1 := hgrow1.size
            go_wp2_with (at_make; refine wpList_make_own _ rfl _ _ 25 rfl wc.heap.size 3 i3 _ 1 Try.underlying25 hi3 hz30 hz31 .i64 .i64 _ m rfl rfl (by omega) (by rw [hz32]; omega) (by unfold maxLen; omega) (by omega) ?_; intro w2 hown2 hgrow2)
            have hb1 : Below wc.heap.size wc w1 := hb.grown hgrow1 hsz (fun k hk => by cases hk)
            have hb2 : Below wc.heap.size wc w2 := hb1.grown hgrow2 (by omega) (fun k hk => by cases hk)
            have hT : Two wc.heap.size wc 21 3 _ _ [] [] w2 := ⟨owns_keep hown1 hgrow2 (none_or _), hown2, .inr (.inr (fun e => by
              have h9 : wr.heap.size < w1.heap.size := (owns_base hown1 _ rfl).2
              simp [Value.ownBlock] at e
              omega)), hb2, hb2.size⟩
            have hgs : (wr.heap.size < w1.heap.size) := (owns_base hown1 _ rfl).2
            clear hown1 hown2 hgrow1 hgrow2 hb hb1 hb2 hsz
            obtain ⟨L, hL⟩ : ∃ L, memL P K k = L := ⟨_, rfl⟩
            have HL : Hid _ := hL
            clear hL
            go_loopw [9, 10, 11, 12] (fun v9 v10 v11 vi wr => ∃ i : Nat, i ≤ k ∧ vi = .int .i64 i ∧ v11 = .int .i64 ((memL P K i).map (shareOf L)).sum ∧ Two wc.heap.size wc 21 3 v9 v10 ((memL P K i).map (Value.int .i32)) (((memL P K i).map (shareOf L)).map (Value.int .i64)) wr) (fun _ _ _ vi _ => k - (intOf vi).toNat)
            case atStart => exact ⟨0, Nat.zero_le _, rfl, rfl, hT⟩
            case round =>
              clear hT
              obtain ⟨i, hi', rfl, rfl, hT⟩ := hrel
              have hb := hT.bel
              have hsb := sum_bound (memL P K i) L
              have hml2 := memL_len P K i
              obtain ⟨T, hTe⟩ : ∃ T, ((memL P K i).map (shareOf L)).sum = T := ⟨_, rfl⟩
              rw [hTe] at hsb
              rw [hTe]
              have HT : Hid _ := hTe
              clear hTe
              by_cases hil : i < k
              · obtain ⟨g1, e1, cK⟩ := rd_cell rK hb i (by have := HK.out; omega)
                obtain ⟨g0, e0, cP⟩ := rd_cell rP hb i (by have := HP.out; omega)
                have hyf := hPf i (by have := HP.out; omega)
                obtain ⟨z, hz⟩ : ∃ z, K[i]! = z := ⟨_, rfl⟩
                obtain ⟨y, hy⟩ : ∃ y, P[i]! = y := ⟨_, rfl⟩
                rw [hz] at cK
                rw [hy] at cP hyf
                have HZ : Hid _ := hz
                have HY : Hid _ := hy
                clear hz hy
                by_cases hm : z = -1
                · have hzb : (z == -1) = true := by simp [hm]
                  have HQ : Hid _ := hm
                  clear hm
                  have hmem : y ∈ memL P K k := (memL_mem P K k y).2 ⟨i, hil, by rw [HZ.out]; exact HQ.out, HY.out⟩
                  obtain ⟨s1, s2⟩ := share_memb P K y k HND.out hmem
                  have hs2 := share_two L y
                  have c := fun c0 c1 => zzPlan_any b0 b1 c0 c1 k P K y wr (rP.below hb) (rK.below hb) HP.out HK.out (by omega) hPf hKf hyf
                  rw [s1, s2, HM.out, HL.out] at c
                  obtain ⟨q, hq⟩ : ∃ q : Nat, (64 : Int) / m = q := ⟨64 / m, by rw [Int.natCast_ediv]; rfl⟩
                  have hqb : q ≤ 64 := by
                    have := Int.ediv_le_self (a := 64) (b := (m : Int)) (by omega)
                    omega
                  rw [← HL.out, HM.out, hq, HL.out] at hs2
                  obtain ⟨S, hS⟩ : ∃ S : Nat, shareOf L y = S := by
                    rcases hs2 with h | h
                    · exact ⟨q, h⟩
                    · exact ⟨q + 1, h⟩
                  rw [hS] at hs2 c
                  have HS : Hid _ := hS
                  clear hS s1 s2 hmem
                  have e := memL_add P K i (by rw [HZ.out]; exact HQ.out)
                  rw [HY.out] at e
                  have HE : Hid _ := e
                  have HRP : Hid _ := rP
                  clear e rK
                  subst e0
                  subst e1
                  go_upto_region 34 with (go_at_call 9; refine (c _ _).mono ?_; rintro e w3 ⟨vH, vR, vT, rfl, rH, rR, rT, hb3⟩)
                  have hT3 := hT.below hb3
                  obtain ⟨_, e1, cP3⟩ := rd_cell rP hT3.bel i (by have := HP.out; omega)
                  cases e1
                  rw [HY.out] at cP3
                  clear rH rR rT c hT hb3 cP cK hb
                  have hxl : ((memL P K i).map (Value.int .i32)).length ≤ 4096 := by rw [List.length_map]; omega
                  have hyl : (((memL P K i).map (shareOf L)).map (Value.int .i64)).length ≤ 4096 := by rw [List.length_map, List.length_map]; omega
                  have hT3s := hT3.sz
                  have hw3 : wc.heap.size ≤ (w3.alloc (Obj.cells #[.int .i32 y] 21)).heap.size := (hT3.alloc _).sz
                  rcases hs2 with hs2 | hs2
                  · obtain rfl : S = q := by omega
                    clear hs2
                    go_upto_region 40 with (first
                      | (at_builtin; refine wpList_append_own_at _ rfl _ _ 22 rfl wc.heap.size 21 i21 (.int .i32 0) 1 4 Try.underlying22 hi hz0 hz1 hz2 rfl (by decide) _ _ _ rfl (hT3.alloc (Obj.cells #[.int .i32 y] 21)).ownA ⟨w3.heap.size, 0, none⟩ 1 1 [.int .i32 y] rfl rfl (cell_one_new w3 (.int .i32 y) 21) (ints_oneCell .i32 [y]) (by unfold maxLen; omega) (by omega) hw3 ?_; intro v1 w4 hown1 hgrow1 hnil1 hat1; have hT4 := (hT3.alloc (Obj.cells #[.int .i32 y] 21)).appA hown1 hgrow1 hat1; clear hown1 hgrow1 hnil1 hat1)
                      | go_in)
                    have hw4 : wc.heap.size ≤ (w4.alloc (Obj.cells #[.int .i64 (S : Int)] 3)).heap.size := (hT4.alloc _).sz
                    go_wp2_with (first
                      | (at_builtin; refine wpList_append_own_at _ rfl _ _ 25 rfl wc.heap.size 3 i3 (.int .i64 0) 1 8 Try.underlying25 hi3 hz30 hz31 hz32 rfl (by decide) _ _ _ rfl (hT4.alloc (Obj.cells #[.int .i64 (S : Int)] 3)).ownB ⟨w4.heap.size, 0, none⟩ 1 1 [.int .i64 (S : Int)] rfl rfl (cell_one_new w4 (.int .i64 (S : Int)) 3) (ints_oneCell .i64 [(S : Int)]) (by unfold maxLen; omega) (by omega) hw4 ?_; intro v2 w5 hown1 hgrow1 hnil1 hat1; have hT5 := (hT4.alloc (Obj.cells #[.int .i64 (S : Int)] 3)).appB hown1 hgrow1 hat1; clear hown1 hgrow1 hnil1 hat1)
                      | go_in)
                    go_roundw
                    case rel =>
                      refine ⟨i + 1, by omega, by go_num, ?_, ?_⟩
                      · rw [HE.out, List.map_append, List.sum_append, HT.out, List.map_cons, HS.out]; simp
                      · rw [HE.out, List.map_append, List.map_append, List.map_append, List.map_cons (f := shareOf L), HS.out]; exact hT5
                    case measure => simp [intOf]; omega
                  · obtain rfl : S = q + 1 := by omega
                    clear hs2
                    go_upto_region 40 with (first
                      | (at_builtin; refine wpList_append_own_at _ rfl _ _ 22 rfl wc.heap.size 21 i21 (.int .i32 0) 1 4 Try.underlying22 hi hz0 hz1 hz2 rfl (by decide) _ _ _ rfl (hT3.alloc (Obj.cells #[.int .i32 y] 21)).ownA ⟨w3.heap.size, 0, none⟩ 1 1 [.int .i32 y] rfl rfl (cell_one_new w3 (.int .i32 y) 21) (ints_oneCell .i32 [y]) (by unfold maxLen; omega) (by omega) hw3 ?_; intro v1 w4 hown1 hgrow1 hnil1 hat1; have hT4 := (hT3.alloc (Obj.cells #[.int .i32 y] 21)).appA hown1 hgrow1 hat1; clear hown1 hgrow1 hnil1 hat1)
                      | go_in)
                    have hw4 : wc.heap.size ≤ (w4.alloc (Obj.cells #[.int .i64 ((q + 1 : Nat) : Int)] 3)).heap.size := (hT4.alloc _).sz
                    go_wp2_with (first
                      | (at_builtin; refine wpList_append_own_at _ rfl _ _ 25 rfl wc.heap.size 3 i3 (.int .i64 0) 1 8 Try.underlying25 hi3 hz30 hz31 hz32 rfl (by decide) _ _ _ rfl (hT4.alloc (Obj.cells #[.int .i64 ((q + 1 : Nat) : Int)] 3)).ownB ⟨w4.heap.size, 0, none⟩ 1 1 [.int .i64 ((q + 1 : Nat) : Int)] rfl rfl (cell_one_new w4 (.int .i64 ((q + 1 : Nat) : Int)) 3) (ints_oneCell .i64 [((q + 1 : Nat) : Int)]) (by unfold maxLen; omega) (by omega) hw4 ?_; intro v2 w5 hown1 hgrow1 hnil1 hat1; have hT5 := (hT4.alloc (Obj.cells #[.int .i64 ((q + 1 : Nat) : Int)] 3)).appB hown1 hgrow1 hat1; clear hown1 hgrow1 hnil1 hat1)
                      | go_in)
                    go_roundw
                    case rel =>
                      refine ⟨i + 1, by omega, by go_num, ?_, ?_⟩
                      · rw [HE.out, List.map_append, List.sum_append, HT.out, List.map_cons, HS.out]; simp
                      · rw [HE.out, List.map_append, List.map_append, List.map_append, List.map_cons (f := shareOf L), HS.out]; exact hT5
                    case measure => simp [intOf]; omega
                · have hzb : (z == -1) = false := by simp [hm]
                  have HQ : Hid _ := hm
                  clear hm
                  subst e0
                  subst e1
                  have e := memL_skip P K i (by rw [HZ.out]; exact HQ.out)
                  go_wp2_with fail
                  go_roundw
                  case rel => exact ⟨i + 1, by omega, by go_num, by rw [e, HT.out], by rw [e]; exact hT⟩
                  case measure => simp [intOf]; omega
              · obtain rfl : i = k := by omega
                rw [HL.out] at hT HM HT
                have hne : L ≠ [] := fun e => by have := HM.out; rw [e] at this; simp at this; omega
                have h64 : T = 64 := by
                  have h1 := share_sum L (by rw [← HL.out]; exact HND.out) hne
                  have h2 := HT.out
                  omega
                subst h64
                obtain ⟨g9, cap9, e9, hc91, hc92⟩ := (own_slice hT.ownA).resolve_left (fun e => by have := e.2; rw [List.length_map, HM.out] at this; omega)
                obtain ⟨g10, cap10, e10, hc101, hc102⟩ := (own_slice hT.ownB).resolve_left (fun e => by have := e.2; rw [List.length_map, List.length_map, HM.out] at this; omega)
                subst e9
                subst e10
                have hc9 : ∀ t, t < m → wr.cell? ⟨g9, t, none⟩ = some (.int .i32 (L.getD t 0)) := by
                  intro t ht
                  have := own_cell hT.ownA t (by rw [List.length_map, HM.out]; exact ht)
                  rw [this, List.getD_eq_getElem?_getD, List.getElem?_map, List.getD_eq_getElem?_getD, List.getElem?_eq_getElem (by rw [HM.out]; exact ht)]
                  rfl
                have hc10 : ∀ t, t < m → wr.cell? ⟨g10, t, none⟩ = some (.int .i64 (shareOf L (L.getD t 0))) := by
                  intro t ht
                  have := own_cell hT.ownB t (by rw [List.length_map, List.length_map, HM.out]; exact ht)
                  rw [this, List.getD_eq_getElem?_getD, List.getElem?_map, List.getElem?_map, List.getD_eq_getElem?_getD, List.getElem?_eq_getElem (by rw [HM.out]; exact ht)]
                  rfl
                simp only [List.length_map, HM.out] at hc91 hc92 hc101 hc102 ⊢
                unfold maxLen at hc92 hc102
                have HC9 : Hid _ := hc9
                have HC10 : Hid _ := hc10
                clear hT hc9 hc10 hne rK rP
                have hbase := hb
                clear hb
                obtain ⟨wm, rfl⟩ : ∃ wm, wm = wr := ⟨wr, rfl⟩
                go_wp2_with fail
                go_loopw [18] (fun va wx => ∃ a : Nat, a ≤ m ∧ va = .int .i64 a ∧ Below wm.heap.size wm wx) (fun va _ => m - (intOf va).toNat)
                case atStart => exact ⟨0, Nat.zero_le _, rfl, Below.refl _ _⟩
                case round =>
                  obtain ⟨a, ha, rfl, hb⟩ := hrel
                  by_cases hal : a < m
                  · go_wp2_with fail
                    go_loopw [19] (fun vb wx => ∃ b : Nat, b ≤ m ∧ vb = .int .i64 b ∧ Below wm.heap.size wm wx) (fun vb _ => m - (intOf vb).toNat)
                    case atStart => exact ⟨0, Nat.zero_le _, rfl, hb⟩
                    case round =>
                      obtain ⟨b, hbm, rfl, hb2⟩ := hrel
                      by_cases hbl : b < m
                      · have p1 := HC9.out a hal
                        rw [← hb2.cell (block_of_cell p1)] at p1
                        have p2 := HC9.out b hbl
                        rw [← hb2.cell (block_of_cell p2)] at p2
                        have p3 := HC10.out a hal
                        rw [← hb2.cell (block_of_cell p3)] at p3
                        have p4 := HC10.out b hbl
                        rw [← hb2.cell (block_of_cell p4)] at p4
                        have hmono := share_mono L (L.getD a 0) (L.getD b 0)
                        obtain ⟨sa, hsa⟩ : ∃ x, shareOf L (L.getD a 0) = x := ⟨_, rfl⟩
                        obtain ⟨sb, hsb'⟩ : ∃ x, shareOf L (L.getD b 0) = x := ⟨_, rfl⟩
                        rw [hsa] at p3 hmono
                        rw [hsb'] at p4 hmono
                        clear hsa hsb'
                        obtain ⟨pa, hpa⟩ : ∃ x, L.getD a 0 = x := ⟨_, rfl⟩
                        obtain ⟨pb, hpb⟩ : ∃ x, L.getD b 0 = x := ⟨_, rfl⟩
                        rw [hpa] at p1 hmono
                        rw [hpb] at p2 hmono
                        clear hpa hpb
                        by_cases hpp : pa < pb
                        · have hss := hmono hpp
                          clear hmono
                          skip
                          go_upto_region 49 with fail
                          go_quiet (fail)
                          go_wp2_with fail
                          go_roundw
                          case rel => exact ⟨b + 1, by omega, by go_num, below_drewN hb2 _⟩
                          case measure => simp [intOf]; omega
                        · clear hmono
                          skip
                          go_upto_region 49 with fail
                          go_quiet (fail)
                          go_wp2_with fail
                          go_roundw
                          case rel => exact ⟨b + 1, by omega, by go_num, below_drewN hb2 _⟩
                          case measure => simp [intOf]; omega
                      · obtain rfl : b = m := by omega
                        go_wp2_with fail
                        go_roundw
                        case rel => exact ⟨a + 1, by omega, by go_num, hb2⟩
                        case measure => simp [intOf]; omega
                  · go_wp2_with fail
                    go_ret
                    exact ⟨rfl, (hbc.trans (hbase.mono hbc.size)).trans (hb.mono (Nat.le_trans hbc.size hbase.size))⟩
end Go.Proofs.Qxb6601455a
