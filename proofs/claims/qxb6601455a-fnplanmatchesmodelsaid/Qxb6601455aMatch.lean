import Derived.Test.Qxb6601455aTwo
namespace Go.Proofs.Qxb6601455a
open Go.ChangeShapes Go.WideShapes Go.ChangeAt Go.RowKit Go.Maps
set_option linter.unusedVariables false

theorem rd_cell2 {wc wr : World} {a : Option Addr} {d : Array Int} (h : Rd32 wc a d) (hb : Below wc.heap.size wc wr) (t : Nat) (ht : t < d.size) : ∃ g, a = some ⟨g, 0, none⟩ ∧ wr.cell? ⟨g, t, none⟩ = some (.int .i32 d[t]!) := by
  obtain ⟨g, h1, h2⟩ := h.pos (by omega)
  exact ⟨g, h1, (h2.below hb h2.lt).cell t ht⟩

theorem memb_skip (P K : Array Int) (pid : Int) (k : Nat) (h : ¬ (K[k]! = -1 ∧ P[k]! ≠ pid)) : memb P K pid (k + 1) = memb P K pid k := by
  simp only [memb, if_neg h, List.append_nil]
theorem memb_add (P K : Array Int) (pid : Int) (k : Nat) (h : K[k]! = -1 ∧ P[k]! ≠ pid) : memb P K pid (k + 1) = memb P K pid k ++ [P[k]!] := by
  simp only [memb, if_pos h]
theorem rank_add (l : List Int) (y pid : Int) : rankOf (l ++ [y]) pid = rankOf l pid + if y < pid then 1 else 0 := by
  unfold rankOf
  rw [List.filter_append, List.length_append]
  by_cases h : y < pid <;> simp [h]
theorem rank_le (l : List Int) (pid : Int) : rankOf l pid ≤ l.length := List.length_filter_le _ _

/-- A row of one's own, whatever it holds: its shape, and its cells. -/
theorem own_any {wr : World} {base : Nat} {v : Value} {l : List Int} (h : wr.ownsRow base 3 1 v (l.map (Value.int .i64)).length (l.map (Value.int .i64))) :
    ∃ a c, v = .slice a l.length c ∧ l.length ≤ c ∧ c ≤ maxLen ∧ ∀ t, t < l.length → ∃ g, a = some ⟨g, 0, none⟩ ∧ wr.cell? ⟨g, t, none⟩ = some (.int .i64 (l.getD t 0)) := by
  rw [List.length_map] at h
  rcases own_slice h with ⟨rfl, h0⟩ | ⟨g, cap, rfl, hc1, hc2⟩
  · exact ⟨none, 0, by rw [h0], by omega, by unfold maxLen; omega, fun t ht => by omega⟩
  · refine ⟨_, cap, rfl, hc1, hc2, fun t ht => ⟨g, rfl, ?_⟩⟩
    rw [own_cell h t ht, List.getD_eq_getElem?_getD, List.getElem?_map, List.getD_eq_getElem?_getD, List.getElem?_eq_getElem ht]
    rfl
theorem rd_own {wr : World} {base : Nat} {v : Value} {l : List Int} (h : wr.ownsRow base 3 1 v (l.map (Value.int .i64)).length (l.map (Value.int .i64))) : Rd64 wr v l := by
  rw [List.length_map] at h
  exact rd_all h (fun x _ => rfl)
theorem take_drop_add (l : List Int) (S j : Nat) (h1 : S ≤ j) (h2 : j < l.length) : (l.drop S).take (j + 1 - S) = (l.drop S).take (j - S) ++ [l.getD j 0] := by
  rw [show j + 1 - S = (j - S) + 1 by omega, List.take_succ_eq_append_getElem (by rw [List.length_drop]; omega), List.getElem_drop, List.getD_eq_getElem?_getD, List.getElem?_eq_getElem h2]
  simp [show S + (j - S) = j by omega]
theorem take_add (l : List Int) (j : Nat) (h2 : j < l.length) : l.take (j + 1) = l.take j ++ [l.getD j 0] := by
  rw [List.take_succ_eq_append_getElem h2, List.getD_eq_getElem?_getD, List.getElem?_eq_getElem h2]
  rfl

/-- What the three comparisons find. -/
structure Six (vA vB vC vD vE vF : Value) (l1 l2 l3 : List Int) (w : World) : Prop where
  a : Rd64 w vA l1
  b : Rd64 w vB l1
  c : Rd64 w vC l2
  d : Rd64 w vD l2
  e : Rd64 w vE l3
  f : Rd64 w vF l3
  s1 : l1.length ≤ 1000000
  s2 : l2.length ≤ 1000000
  s3 : l3.length ≤ 1000000
theorem Six.below {vA vB vC vD vE vF : Value} {l1 l2 l3 : List Int} {w w' : World} (h : Six vA vB vC vD vE vF l1 l2 l3 w) (hb : Below w.heap.size w w') : Six vA vB vC vD vE vF l1 l2 l3 w' :=
  ⟨h.a.below hb, h.b.below hb, h.c.below hb, h.d.below hb, h.e.below hb, h.f.below hb, h.s1, h.s2, h.s3⟩
theorem eq_one {vA vB vC vD vE vF : Value} {l1 l2 l3 : List Int} {w : World} (h : Six vA vB vC vD vE vF l1 l2 l3 w) : Calls Try.prog 10 #[vA, vB] w fun e w' => e = .returned (.bool true) ∧ Six vA vB vC vD vE vF l1 l2 l3 w' ∧ Below w.heap.size w w' := by
  refine (eqInts_any vA vB l1 w h.a h.b h.s1).mono ?_
  rintro e w' ⟨rfl, hb⟩
  exact ⟨rfl, h.below hb, hb⟩
theorem eq_two {vA vB vC vD vE vF : Value} {l1 l2 l3 : List Int} {w : World} (h : Six vA vB vC vD vE vF l1 l2 l3 w) : Calls Try.prog 10 #[vC, vD] w fun e w' => e = .returned (.bool true) ∧ Six vA vB vC vD vE vF l1 l2 l3 w' ∧ Below w.heap.size w w' := by
  refine (eqInts_any vC vD l2 w h.c h.d h.s2).mono ?_
  rintro e w' ⟨rfl, hb⟩
  exact ⟨rfl, h.below hb, hb⟩
theorem eq_three {vA vB vC vD vE vF : Value} {l1 l2 l3 : List Int} {w : World} (h : Six vA vB vC vD vE vF l1 l2 l3 w) : Calls Try.prog 10 #[vE, vF] w fun e w' => e = .returned (.bool true) ∧ Six vA vB vC vD vE vF l1 l2 l3 w' ∧ Below w.heap.size w w' := by
  refine (eqInts_any vE vF l3 w h.e h.f h.s3).mono ?_
  rintro e w' ⟨rfl, hb⟩
  exact ⟨rfl, h.below hb, hb⟩

theorem bthen {a b c : World} (h : Below a.heap.size a b) (k : Below b.heap.size b c) : Below a.heap.size a c := h.trans (k.mono h.size)
theorem relL_len (s : Int) (H : List Int) : (relL s H).length ≤ H.length := by
  unfold relL
  split
  · rw [List.length_drop]; omega
  · simp
theorem takeL_len (s : Int) (H F : List Int) : (takeL s H F).length ≤ F.length := by
  unfold takeL
  split
  · simp
  · rw [List.length_take]; omega

set_option maxRecDepth 100000 in
set_option maxHeartbeats 16000000 in
theorem match_in (a0 a1 : Option Addr) (cap0 cap1 n : Nat) (P K : Array Int) (pid : Int) (w : World) (h0 : Came w a0 n cap0 P) (h1 : Came w a1 n cap1 K) (hn : n ≤ 65536) (hpid : -2147483648 ≤ pid ∧ pid ≤ 2147483647) :
    Calls Try.prog 3 #[.slice a0 n cap0, .slice a1 n cap1, .int .i32 pid] w fun e w' => e = .returned (.bool true) ∧ Below w.heap.size w w' := by
  have HP : Hid (P.size = n) := h0.1.symm
  have HK : Hid (K.size = n) := h1.1.symm
  have hPf := h0.2.1
  have hKf := h1.2.1
  have cl0 := clone_any a0 n cap0 P w h0 (by omega)
  have cl1 := fun w' hb => clone_any a1 n cap1 K w' (h1.below hb) (by omega)
  rw [HP.out] at cl0
  rw [HK.out] at cl1
  go_enter Try.func3, Try.ntmps3
  go_upto_region 7 with (go_at_call 6; refine (zz3_in _ _ _ _ _ _ _ _ (by omega) (by omega)).mono ?_; rintro e w' ⟨rfl, rfl⟩)
  go_upto_region 8 with (go_at_call 7; refine cl0.mono ?_; rintro e wb ⟨b0, c0, rfl, rP, hb0⟩)
  go_wp2_with (go_at_call 7; refine (cl1 _ hb0).mono ?_; rintro e wk ⟨b1, c1, rfl, rK, hb1⟩)
  have rP := rP.below hb1
  have hbc := hb0.trans (hb1.mono hb0.size)
  clear cl0 cl1 hb0 hb1 h0 h1
  go_loopw [7, 8, 9] (fun vn vr vi wr => ∃ i : Nat, i ≤ n ∧ vi = .int .i64 i ∧ vn = .int .i64 (memb P K pid i).length ∧ vr = .int .i64 (rankOf (memb P K pid i) pid) ∧ Below wk.heap.size wk wr) (fun _ _ vi _ => n - (intOf vi).toNat)
  case atStart => exact ⟨0, Nat.zero_le _, rfl, by simp [memb], by simp [memb, rankOf], Below.refl _ _⟩
  case round =>
    obtain ⟨i, hi, rfl, rfl, rfl, hb⟩ := hrel
    have hml := memb_len P K pid i
    have hrl := rank_le (memb P K pid i) pid
    by_cases hlt : i < n
    · obtain ⟨m, hm⟩ : ∃ m, (memb P K pid i).length = m := ⟨_, rfl⟩
      obtain ⟨r, hr⟩ : ∃ r, rankOf (memb P K pid i) pid = r := ⟨_, rfl⟩
      rw [hm] at hml hrl
      rw [hr] at hrl
      rw [hm, hr]
      have HM : Hid _ := hm
      have HR : Hid _ := hr
      clear hm hr
      obtain ⟨g1, rfl, cK⟩ := rd_cell2 rK hb i (by have := HK.out; omega)
      obtain ⟨g0, rfl, cP⟩ := rd_cell2 rP hb i (by have := HP.out; omega)
      obtain ⟨z, hz⟩ : ∃ z, K[i]! = z := ⟨_, rfl⟩
      obtain ⟨y, hy⟩ : ∃ y, P[i]! = y := ⟨_, rfl⟩
      rw [hz] at cK
      rw [hy] at cP
      have HZ : Hid _ := hz
      have HY : Hid _ := hy
      clear hz hy
      by_cases hq : z = -1
      · have hzb : (z == -1) = true := by simp [hq]
        have HQ : Hid _ := hq
        clear hq
        by_cases hy3 : y = pid
        · have hyb : (y == pid) = true := by simp [hy3]
          have HY3 : Hid _ := hy3
          clear hy3
          have HE : Hid _ := memb_skip P K pid i (fun e => e.2 (by rw [HY.out]; exact HY3.out))
          go_wp2_with fail
          go_roundw
          case rel => exact ⟨i + 1, by omega, by go_num, by rw [HE.out, HM.out], by rw [HE.out, HR.out], hb⟩
          case measure => simp [intOf]; omega
        · have hyb : (y == pid) = false := by simp [hy3]
          have HY3 : Hid _ := hy3
          clear hy3
          have HE : Hid _ := memb_add P K pid i ⟨by rw [HZ.out]; exact HQ.out, by rw [HY.out]; exact HY3.out⟩
          by_cases hy4 : y < pid
          · go_wp2_with fail
            go_roundw
            case rel => exact ⟨i + 1, by omega, by go_num, by rw [HE.out, List.length_append, HM.out]; go_num, by rw [HE.out, rank_add, HR.out, HY.out, if_pos hy4]; go_num, hb⟩
            case measure => simp [intOf]; omega
          · go_wp2_with fail
            go_roundw
            case rel => exact ⟨i + 1, by omega, by go_num, by rw [HE.out, List.length_append, HM.out]; go_num, by rw [HE.out, rank_add, HR.out, HY.out, if_neg hy4]; rfl, hb⟩
            case measure => simp [intOf]; omega
      · have hzb : (z == -1) = false := by simp [hq]
        have HQ : Hid _ := hq
        clear hq
        have HE : Hid _ := memb_skip P K pid i (fun e => HQ.out (by rw [← HZ.out]; exact e.1))
        go_wp2_with fail
        go_roundw
        case rel => exact ⟨i + 1, by omega, by go_num, by rw [HE.out, HM.out], by rw [HE.out, HR.out], hb⟩
        case measure => simp [intOf]; omega
    · obtain rfl : i = n := by omega
      obtain ⟨L, hL⟩ : ∃ L, memb P K pid i = L := ⟨_, rfl⟩
      have c9 := fun c0 c1 wz h0 h1 => zzPlan_any b0 b1 c0 c1 i P K pid wz h0 h1 HP.out HK.out (by omega) hPf hKf hpid
      have c8 := fun (g : Nat) (wz : World) h0 h1 hg => last_any b0 b1 c0 c1 P K g wz h0 h1 (by rw [HP.out, HK.out]) (by rw [HP.out]; omega) hg hKf
      rw [HP.out] at c8
      rw [hL] at hml hrl c9
      rw [hL]
      have HL : Hid _ := hL
      clear hL
      obtain ⟨m, hm⟩ : ∃ m, L.length = m := ⟨_, rfl⟩
      obtain ⟨r, hr⟩ : ∃ r, rankOf L pid = r := ⟨_, rfl⟩
      obtain ⟨q, hq⟩ : ∃ q : Nat, (64 : Int) / m = q := ⟨64 / m, by rw [Int.natCast_ediv]; rfl⟩
      obtain ⟨rm, hrm⟩ : ∃ rm : Nat, (64 : Int) % m = rm := ⟨64 % m, by rw [Int.natCast_emod]; rfl⟩
      have hS0 : shareOf L pid = (q : Int) + if r < rm then 1 else 0 := by
        unfold shareOf
        rw [hm, hr, hq, hrm]
        by_cases e : r < rm
        · rw [if_pos e, if_pos (by omega)]
        · rw [if_neg e, if_neg (by omega)]
      obtain ⟨S, hS⟩ : ∃ S : Nat, q + (if r < rm then 1 else 0) = S := ⟨_, rfl⟩
      have hS1 : shareOf L pid = (S : Int) := by rw [hS0, ← hS]; split <;> simp
      rw [hm] at hml hrl c9
      rw [hr] at hrl
      rw [hm, hr]
      rw [hS1] at c9
      have C9 : Hid _ := c9
      have C8 : Hid _ := c8
      have HS : Hid _ := hS
      clear hS0 hS1 c9 c8 hS hm hr
      have hqb : q ≤ 64 := by
        have := Int.ediv_le_self (a := 64) (b := (m : Int)) (by omega)
        omega
      go_upto_if 82 with fail
      go_cut [10] (fun v10 wx => v10 = .int .i64 S ∧ Below wk.heap.size wk wx)
      case first =>
        by_cases hrr : r < rm
        · go_wp2_with fail
          go_meet
          case rel => exact ⟨by rw [← HS.out, if_pos hrr]; go_num, hb⟩
        · go_wp2_with fail
          go_meet
          case rel => exact ⟨by rw [← HS.out, if_neg hrr]; go_num, hb⟩
      case rest =>
        obtain ⟨rfl, hbx⟩ := hcut
        have hSb : S ≤ 65 := by have := HS.out; split at this <;> omega
        clear hb hq hrm hrl
        obtain ⟨i3, hi3, hz30, hz31, hz32⟩ := info_parts info3
        go_wp2_with fail
        go_loopw [11, 12, 13] (fun vH vF vg wr => ∃ g : Nat, g ≤ 64 ∧ vg = .int .i64 g ∧ Two wk.heap.size wk 3 3 vH vF ((heldL P K i pid g).map (Value.int .i64)) ((freeL P K i g).map (Value.int .i64)) wr) (fun _ _ vg _ => 64 - (intOf vg).toNat)
        case atStart => exact ⟨0, by omega, rfl, ⟨⟨rfl, .inl ⟨rfl, rfl⟩⟩, ⟨rfl, .inl ⟨rfl, rfl⟩⟩, .inl rfl, hbx, hbx.size⟩⟩
        case round =>
          obtain ⟨g, hg, rfl, hT⟩ := hrel
          clear hbx
          by_cases hgl : g < 64
          · have c := C8.out g wr (rP.below hT.bel) (rK.below hT.bel) (by omega)
            have e1 : heldL P K i pid (g + 1) = heldL P K i pid g ++ (if lastH P K g i = some pid then [(g : Int)] else []) := rfl
            have e2 : freeL P K i (g + 1) = freeL P K i g ++ (if lastH P K g i = none then [(g : Int)] else []) := rfl
            have hxl : ((heldL P K i pid g).map (Value.int .i64)).length ≤ 64 := by rw [List.length_map]; have := heldL_len P K i pid g; omega
            have hyl : ((freeL P K i g).map (Value.int .i64)).length ≤ 64 := by rw [List.length_map]; have := freeL_len P K i g; omega
            cases hlast : lastH P K g i with
            | none =>
              rw [hlast] at c e1 e2
              rw [if_neg (by simp), List.append_nil] at e1
              rw [if_pos rfl] at e2
              simp only [Option.getD_none, Option.isSome_none] at c
              have HE1 : Hid _ := e1
              have HE2 : Hid _ := e2
              clear e1 e2 hlast
              go_upto_region 27 with (go_at_call 8; refine c.mono ?_; rintro e w3 ⟨rfl, hw3⟩; subst w3)
              clear c
              have hw9 := (hT.alloc (Obj.cells #[.int .i64 (g : Int)] 3)).sz
              go_wp2_with (first
                | (at_builtin; refine wpList_append_own_at _ rfl _ _ 25 rfl wk.heap.size 3 i3 (.int .i64 0) 1 8 Try.underlying25 hi3 hz30 hz31 hz32 rfl (by decide) _ _ _ rfl (hT.alloc (Obj.cells #[.int .i64 (g : Int)] 3)).ownB ⟨wr.heap.size, 0, none⟩ 1 1 [.int .i64 (g : Int)] rfl rfl (cell_one_new wr (.int .i64 (g : Int)) 3) (ints_oneCell .i64 [(g : Int)]) (by unfold maxLen; omega) (by omega) hw9 ?_; intro v9 w9 hown1 hgrow1 hnil1 hat1; have hT9 := (hT.alloc (Obj.cells #[.int .i64 (g : Int)] 3)).appB hown1 hgrow1 hat1; clear hown1 hgrow1 hnil1 hat1)
                | go_in)
              go_roundw
              case rel => exact ⟨g + 1, by omega, by go_num, by rw [HE1.out, HE2.out, List.map_append]; exact hT9⟩
              case measure => simp [intOf]; omega
            | some h0 =>
              rw [hlast] at c e1 e2
              rw [if_neg (by simp), List.append_nil] at e2
              simp only [Option.getD_some, Option.isSome_some] at c
              by_cases hp0 : h0 = pid
              · rw [if_pos (by rw [hp0])] at e1
                have hpb : (h0 == pid) = true := by simp [hp0]
                have HE1 : Hid _ := e1
                have HE2 : Hid _ := e2
                clear e1 e2 hlast hp0
                go_upto_region 27 with (go_at_call 8; refine c.mono ?_; rintro e w3 ⟨rfl, hw3⟩; subst w3)
                clear c
                have hw9 := (hT.alloc (Obj.cells #[.int .i64 (g : Int)] 3)).sz
                go_wp2_with (first
                  | (at_builtin; refine wpList_append_own_at _ rfl _ _ 25 rfl wk.heap.size 3 i3 (.int .i64 0) 1 8 Try.underlying25 hi3 hz30 hz31 hz32 rfl (by decide) _ _ _ rfl (hT.alloc (Obj.cells #[.int .i64 (g : Int)] 3)).ownA ⟨wr.heap.size, 0, none⟩ 1 1 [.int .i64 (g : Int)] rfl rfl (cell_one_new wr (.int .i64 (g : Int)) 3) (ints_oneCell .i64 [(g : Int)]) (by unfold maxLen; omega) (by omega) hw9 ?_; intro v9 w9 hown1 hgrow1 hnil1 hat1; have hT9 := (hT.alloc (Obj.cells #[.int .i64 (g : Int)] 3)).appA hown1 hgrow1 hat1; clear hown1 hgrow1 hnil1 hat1)
                  | go_in)
                go_roundw
                case rel => exact ⟨g + 1, by omega, by go_num, by rw [HE1.out, HE2.out, List.map_append]; exact hT9⟩
                case measure => simp [intOf]; omega
              · rw [if_neg (fun e => hp0 (by injection e)), List.append_nil] at e1
                have hpb : (h0 == pid) = false := by simp [hp0]
                have HE1 : Hid _ := e1
                have HE2 : Hid _ := e2
                clear e1 e2 hlast hp0
                go_upto_region 27 with (go_at_call 8; refine c.mono ?_; rintro e w3 ⟨rfl, hw3⟩; subst w3)
                clear c
                go_wp2_with fail
                go_roundw
                case rel => exact ⟨g + 1, by omega, by go_num, by rw [HE1.out, HE2.out]; exact hT⟩
                case measure => simp [intOf]; omega
          · have hg64 : g = 64 := by omega
            rw [hg64] at hT
            clear hg64
            obtain ⟨wm, rfl⟩ : ∃ wm, wm = wr := ⟨wr, rfl⟩
            have hbm := hT.bel
            have rH := rd_own hT.ownA
            have rF := rd_own hT.ownB
            obtain ⟨aH, cH, e1, hcH1, hcH2, hcH⟩ := own_any hT.ownA
            obtain ⟨aF, cF, e2, hcF1, hcF2, hcF⟩ := own_any hT.ownB
            subst e1
            subst e2
            have hhl := heldL_len P K i pid 64
            have hfl := freeL_len P K i 64
            obtain ⟨H, hH⟩ : ∃ H, heldL P K i pid 64 = H := ⟨_, rfl⟩
            obtain ⟨F, hF⟩ : ∃ F, freeL P K i 64 = F := ⟨_, rfl⟩
            have c9 := C9.out
            rw [hH] at rH hcH1 hcH hhl c9
            rw [hF] at rF hcF1 hcF hfl c9
            rw [hH, hF]
            have C9 : Hid _ := c9
            clear hT hH hF c9
            obtain ⟨nh, hnh⟩ : ∃ nh, H.length = nh := ⟨_, rfl⟩
            obtain ⟨nf, hnf⟩ : ∃ nf, F.length = nf := ⟨_, rfl⟩
            rw [hnh] at hcH1 hcH hhl
            rw [hnf] at hcF1 hcF hfl
            rw [hnh, hnf]
            unfold maxLen at hcH2 hcF2
            have HNH : Hid _ := hnh
            have HNF : Hid _ := hnf
            have HCH : Hid _ := hcH
            have HCF : Hid _ := hcF
            have RH : Hid (Rd64 wm (.slice aH nh cH) H) := by show Rd64 wm (.slice aH nh cH) H; rw [← hnh]; exact rH
            clear hnh hnf hcH hcF rH rF
            go_upto_if 112 with fail
            go_cut [16, 17] (fun v16 v17 wx => Rd64 wx v16 (relL (S : Int) H) ∧ Rd64 wx v17 (takeL (S : Int) H F) ∧ Below wm.heap.size wm wx)
            case first =>
              by_cases hrel' : S < nh
              · have hd : decide (S < nh) = true := by simpa using hrel'
                simp only [hd]
                clear hd
                go_wp2_with fail
                go_loopw [16, 18] (fun v16 vj wx => ∃ j : Nat, S ≤ j ∧ j ≤ nh ∧ vj = .int .i64 j ∧ Two wm.heap.size wm 3 3 v16 (.slice none 0 0) (((H.drop S).take (j - S)).map (Value.int .i64)) [] wx) (fun _ vj _ => nh - (intOf vj).toNat)
                case atStart => exact ⟨S, Nat.le_refl _, by omega, rfl, by rw [Nat.sub_self, List.take_zero]; exact ⟨⟨rfl, .inl ⟨rfl, rfl⟩⟩, ⟨rfl, .inl ⟨rfl, rfl⟩⟩, .inl rfl, Below.refl _ _, Nat.le_refl _⟩⟩
                case round =>
                  obtain ⟨j, hSj, hjn, rfl, hT⟩ := hrel
                  have hxl : (((H.drop S).take (j - S)).map (Value.int .i64)).length ≤ 64 := by
                    rw [List.length_map, List.length_take, List.length_drop, HNH.out]; omega
                  by_cases hjl : j < nh
                  · obtain ⟨gH, rfl, pH⟩ := HCH.out j hjl
                    rw [← hT.bel.cell (block_of_cell pH)] at pH
                    have HE : Hid _ := take_drop_add H S j hSj (by rw [HNH.out]; exact hjl)
                    obtain ⟨x, hx⟩ : ∃ x, H.getD j 0 = x := ⟨_, rfl⟩
                    rw [hx] at pH HE
                    clear hx
                    have hw9 := (hT.alloc (Obj.cells #[.int .i64 x] 3)).sz
                    go_wp2_with (first
                      | (at_builtin; refine wpList_append_own_at _ rfl _ _ 25 rfl wm.heap.size 3 i3 (.int .i64 0) 1 8 Try.underlying25 hi3 hz30 hz31 hz32 rfl (by decide) _ _ _ rfl (hT.alloc (Obj.cells #[.int .i64 x] 3)).ownA ⟨wr.heap.size, 0, none⟩ 1 1 [.int .i64 x] rfl rfl (cell_one_new wr (.int .i64 x) 3) (ints_oneCell .i64 [x]) (by unfold maxLen; omega) (by omega) hw9 ?_; intro v9 w9 hown1 hgrow1 hnil1 hat1; have hT9 := (hT.alloc (Obj.cells #[.int .i64 x] 3)).appA hown1 hgrow1 hat1; clear hown1 hgrow1 hnil1 hat1)
                      | go_in)
                    go_roundw
                    case rel => exact ⟨j + 1, by omega, by omega, by go_num, by rw [HE.out, List.map_append]; exact hT9⟩
                    case measure => simp [intOf]; omega
                  · obtain rfl : j = nh := by omega
                    have rA := rd_own hT.ownA
                    have hbx := hT.bel
                    rw [show (H.drop S).take (j - S) = relL (S : Int) H by
                      unfold relL
                      rw [if_pos (by rw [HNH.out]; omega), Int.toNat_natCast, List.take_of_length_le (by rw [List.length_drop, HNH.out]; omega)]] at rA
                    have hTk : takeL (S : Int) H F = [] := by
                      unfold takeL
                      rw [if_pos (by rw [HNH.out]; omega)]
                    have RA : Hid _ := rA
                    have HTK : Hid _ := hTk
                    clear hT rA hTk
                    go_wp2_with fail
                    go_meet
                    case rel => exact ⟨RA.out, by rw [HTK.out]; exact rd_nil _ _ _, hbx⟩
              · obtain ⟨rm1, hrm1⟩ : ∃ rm1 : Nat, (S : Int) - nh = rm1 := ⟨S - nh, by omega⟩
                have hTk : takeL (S : Int) H F = F.take rm1 := by
                  unfold takeL
                  rw [if_neg (by rw [HNH.out]; omega), HNH.out, hrm1, Int.toNat_natCast]
                have hRl : relL (S : Int) H = [] := by
                  unfold relL
                  rw [if_neg (by rw [HNH.out]; omega)]
                have HTK : Hid _ := hTk
                have HRL : Hid _ := hRl
                clear hTk hRl
                have hd : decide (S < nh) = false := by simpa using hrel'
                simp only [hd]
                clear hd
                go_wp2_with fail
                go_loopw [17, 20] (fun v17 vj wx => ∃ j : Nat, j ≤ nf ∧ j ≤ rm1 ∧ vj = .int .i64 j ∧ Two wm.heap.size wm 3 3 v17 (.slice none 0 0) ((F.take j).map (Value.int .i64)) [] wx) (fun _ vj _ => nf - (intOf vj).toNat)
                case atStart => exact ⟨0, Nat.zero_le _, Nat.zero_le _, rfl, ⟨⟨rfl, .inl ⟨rfl, rfl⟩⟩, ⟨rfl, .inl ⟨rfl, rfl⟩⟩, .inl rfl, Below.refl _ _, Nat.le_refl _⟩⟩
                case round =>
                  obtain ⟨j, hjn, hjr, rfl, hT⟩ := hrel
                  have hxl : ((F.take j).map (Value.int .i64)).length ≤ 64 := by
                    rw [List.length_map, List.length_take, HNF.out]; omega
                  have hlast : ¬ (j < nf ∧ j < rm1) → Rd64 wr u17 (takeL (S : Int) H F) := by
                    intro hno
                    have rA := rd_own hT.ownA
                    rw [HTK.out]
                    have : F.take rm1 = F.take j := by
                      rcases Nat.lt_or_ge j nf with h1 | h1
                      · have : j = rm1 := by omega
                        rw [this]
                      · rw [List.take_of_length_le (by rw [HNF.out]; omega), List.take_of_length_le (by rw [HNF.out]; omega)]
                    rw [this]; exact rA
                  have HLAST : Hid _ := hlast
                  clear hlast
                  have hbx := hT.bel
                  by_cases hjl : j < nf
                  · by_cases hjl2 : j < rm1
                    · obtain ⟨gF, rfl, pF⟩ := HCF.out j hjl
                      rw [← hT.bel.cell (block_of_cell pF)] at pF
                      have HE : Hid _ := take_add F j (by rw [HNF.out]; exact hjl)
                      obtain ⟨x, hx⟩ : ∃ x, F.getD j 0 = x := ⟨_, rfl⟩
                      rw [hx] at pF HE
                      clear hx
                      have hw9 := (hT.alloc (Obj.cells #[.int .i64 x] 3)).sz
                      go_wp2_with (first
                        | (at_builtin; refine wpList_append_own_at _ rfl _ _ 25 rfl wm.heap.size 3 i3 (.int .i64 0) 1 8 Try.underlying25 hi3 hz30 hz31 hz32 rfl (by decide) _ _ _ rfl (hT.alloc (Obj.cells #[.int .i64 x] 3)).ownA ⟨wr.heap.size, 0, none⟩ 1 1 [.int .i64 x] rfl rfl (cell_one_new wr (.int .i64 x) 3) (ints_oneCell .i64 [x]) (by unfold maxLen; omega) (by omega) hw9 ?_; intro v9 w9 hown1 hgrow1 hnil1 hat1; have hT9 := (hT.alloc (Obj.cells #[.int .i64 x] 3)).appA hown1 hgrow1 hat1; clear hown1 hgrow1 hnil1 hat1)
                        | go_in)
                      go_roundw
                      case rel => exact ⟨j + 1, by omega, by omega, by go_num, by rw [HE.out, List.map_append]; exact hT9⟩
                      case measure => simp [intOf]; omega
                    · go_wp2_with fail
                      go_meet
                      case rel => exact ⟨by rw [HRL.out]; exact rd_nil _ _ _, HLAST.out (by omega), hbx⟩
                  · go_wp2_with fail
                    go_meet
                    case rel => exact ⟨by rw [HRL.out]; exact rd_nil _ _ _, HLAST.out (by omega), hbx⟩
            case rest =>
              obtain ⟨r16, r17, hbw⟩ := hcut
              have hbkc : Below wk.heap.size wk wc := hbm.trans (hbw.mono hbm.size)
              have R16 : Hid _ := r16
              have R17 : Hid _ := r17
              clear r16 r17
              go_upto_region 44 with (go_at_call 9; refine (C9.out _ _ _ (rP.below hbkc) (rK.below hbkc)).mono ?_; rintro e w5 ⟨vH, vR, vT, rfl, rH5, rR5, rT5, hb5⟩)
              have hE0 : Six vH (.slice aH nh cH) vR u16 vT u17 H (relL (S : Int) H) (takeL (S : Int) H F) w5 :=
                ⟨rH5, (Rd64.below RH.out hbw).below hb5, rR5, Rd64.below R16.out hb5, rT5, Rd64.below R17.out hb5, by rw [HNH.out]; omega, by have := relL_len (S : Int) H; rw [HNH.out] at this; omega, by have := takeL_len (S : Int) H F; rw [HNF.out] at this; omega⟩
              clear rH5 rR5 rT5
              go_wp2_with (first
                | (go_at_call 10; refine (eq_one hE0).mono ?_; rintro e w6 ⟨rfl, hE1, hb6⟩; clear hE0)
                | (go_at_call 10; refine (eq_two hE1).mono ?_; rintro e w7 ⟨rfl, hE2, hb7⟩; clear hE1)
                | (go_at_call 10; refine (eq_three hE2).mono ?_; rintro e w8 ⟨rfl, hE3, hb8⟩; clear hE2)
                | go_in)
              go_ret
              exact ⟨rfl, bthen (bthen (bthen (bthen (bthen hbc hbkc) hb5) hb6) hb7) hb8⟩
end Go.Proofs.Qxb6601455a
