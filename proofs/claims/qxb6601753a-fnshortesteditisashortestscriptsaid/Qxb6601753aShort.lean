import Derived.Test.Qxb6601753aState
import Derived.Test.Qxb6601753aNum
namespace Go.Proofs.Qxb6601753a
open Go.ChangeShapes Go.WideShapes Go.ChangeAt Go.RowKit
open Plain
set_option linter.unusedVariables false

def EQ (X Y : Nat → Int) (n m : Nat) (i j : Nat) : Bool := decide (i < n) && (decide (j < m) && decide (X i = Y j))
theorem EQ_lt {X Y : Nat → Int} {n m : Nat} : ∀ i j, EQ X Y n m i j = true → i < n ∧ j < m := by
  intro i j h; simp [EQ] at h; omega

theorem RowZ.of_made {w : World} {base g N mid : Nat} (h : w.ownsRow base 3 1 (.slice (some ⟨g, 0, none⟩) N N) N (madeCells (Value.int .i64 0).cells (N * 1)).toList) (hN : N = 2 * mid + 1) : RowZ w g mid (fun _ => 0) := by
  rcases h.2 with ⟨h', _⟩ | ⟨g', cap', cur, h', hb, hg, hnc, hcm, hcs, htake⟩
  · simp at h'
  · simp only [Value.slice.injEq, Option.some.injEq, Addr.mk.injEq, and_true, true_and] at h'
    obtain ⟨rfl, rfl⟩ := h'
    refine ⟨cur, hg, fun k h1 h2 => ?_⟩
    have hj : ((mid : Int) + k).toNat < N * 1 := by omega
    have e1 : cur[((mid : Int) + k).toNat]? = (cur.toList.take (N * 1))[((mid : Int) + k).toNat]? := by rw [List.getElem?_take, if_pos hj]; simp
    have e2 : (Value.int .i64 0).cells = #[.int .i64 0] := rfl
    rw [e1, htake, e2, toList_madeCells_one, List.getElem?_replicate, if_pos hj]

theorem RowZ.of_clone {w : World} {base g d cap : Nat} {F : Int → Int} (h : w.ownsRow base 3 1 (.slice (some ⟨g, 0, none⟩) (2 * d + 1) cap) (2 * d + 1) ((List.range (2 * d + 1)).map fun t : Nat => .int .i64 (F ((t : Int) - d)))) : RowZ w g d F := by
  rcases h.2 with ⟨h', _⟩ | ⟨g', cap', cur, h', hb, hg, hnc, hcm, hcs, htake⟩
  · simp at h'
  · simp only [Value.slice.injEq, Option.some.injEq, Addr.mk.injEq, and_true, true_and] at h'
    obtain ⟨rfl, rfl⟩ := h'
    refine ⟨cur, hg, fun k h1 h2 => ?_⟩
    have hj : ((d : Int) + k).toNat < 2 * d + 1 := by omega
    have e1 : cur[((d : Int) + k).toNat]? = (cur.toList.take ((2 * d + 1) * 1))[((d : Int) + k).toNat]? := by rw [List.getElem?_take, if_pos (by omega)]; simp
    rw [e1, htake, List.getElem?_map, List.getElem?_range hj]
    have e2 : (((((d : Int) + k).toNat : Nat) : Int)) - d = k := by omega
    rw [Option.map_some, e2]

theorem clone_shape {w : World} {base d : Nat} {v : Value} {F : Int → Int} (h : w.ownsRow base 3 1 v (2 * d + 1) ((List.range (2 * d + 1)).map fun t : Nat => .int .i64 (F ((t : Int) - d)))) :
    ∃ g c, v = .slice (some ⟨g, 0, none⟩) (2 * d + 1) c ∧ base ≤ g ∧ RowZ w g d F := by
  rcases h.2 with ⟨_, h2⟩ | ⟨g, c, cur, h1, h2, _⟩
  · omega
  · subst h1; exact ⟨g, c, rfl, h2, RowZ.of_clone h⟩

theorem RowZ.alloc {w : World} {g mid : Nat} {F : Int → Int} (h : RowZ w g mid F) (o : Obj) : RowZ (w.alloc o) g mid F := h.of_block (Below.heap_alloc w o g h.lt)

theorem cells_one (w : World) (v : Value) (t : TypeId) (j : Nat) (u : Value) (h : [v][j]? = some u) : (w.alloc (.cells #[v] t)).cell? ((⟨w.heap.size, 0, none⟩ : Addr).add j) = some u := by
  rw [add_plain, Nat.zero_add, World.cell?_alloc_new]
  rw [← h]; simp

set_option maxRecDepth 100000 in
set_option maxHeartbeats 8000000 in
theorem short_any (n m bx cx by_ cy bb : Nat) (X Y : Nat → Int) (B : Int) (w : World) (hn : n ≤ 65536) (hm : m ≤ 65536) (hn0 : 0 < n) (hm0 : 0 < m) (hB1 : -1073741824 ≤ B) (hB2 : B ≤ 9223372036854775807)
    (hx : ∀ t, t < n → w.cell? ⟨bx, t, none⟩ = some (.int .i64 (X t))) (hy : ∀ t, t < m → w.cell? ⟨by_, t, none⟩ = some (.int .i64 (Y t)))
    (hb : w.heap[bb]? = some (.cells #[.int .i64 B] 3 (0, 0))) (hbx : bx ≠ bb) (hby : by_ ≠ bb) :
    Calls Try.prog 14 #[.slice (some ⟨bx, 0, none⟩) n cx, .slice (some ⟨by_, 0, none⟩) m cy, .pointer (some ⟨bb, 0, none⟩)] w fun e w' => w.grownBy w' (some bb) ∧ ∃ b' : Int, w'.heap[bb]? = some (.cells #[.int .i64 b'] 3 (0, 0)) ∧
      ((e = .returned (.slice none 0 0) ∧ ∃ (d : Nat) (s : Int), d ≤ dist (EQ X Y n m) n m ∧ b' = B - ((d + 1 : Nat) : Int) * ((d + 1 : Nat) : Int) - s ∧ b' < 0 ∧ 0 ≤ s ∧ 2 * s ≤ ((d * (d + 1) * min n m : Nat) : Int) ∧ (d = 0 → s = 0)) ∨
       (∃ (g cap : Nat) (L : List (Int × Int × Int)) (D : Nat) (s : Int), e = .returned (.slice (some ⟨g, 0, none⟩) L.length cap) ∧ RowE w' g cap 39 L.length (fun t => L.getD t (0, 0, 0)) ∧ w.heap.size ≤ g ∧
          Valid (EQ X Y n m) n m 0 0 L ∧ chg L = D ∧ D = dist (EQ X Y n m) n m ∧ b' = B - ((D + 1 : Nat) : Int) * ((D + 1 : Nat) : Int) - s ∧ ((D + 1 : Nat) : Int) * ((D + 1 : Nat) : Int) ≤ B ∧
          (lc (EQ X Y n m) n m : Nat) ≤ s ∧ 2 * s ≤ (((D + 1) * (D + 2) * min n m : Nat) : Int) ∧ (D = 0 → s = n))) := by
  obtain ⟨i0, hi, hz0, hz1, hz2⟩ := info_parts info3
  obtain ⟨i1, hi1, hy0, hy1, hy2⟩ := info_parts info22
  have hbl := (Array.getElem?_eq_some_iff.1 hb).1
  obtain ⟨mid, hmid⟩ : ∃ mid : Nat, (n : Int) + m + 1 = mid := ⟨n + m + 1, by omega⟩
  obtain ⟨E, hE⟩ : ∃ E, E = EQ X Y n m := ⟨_, rfl⟩
  have hElt : ∀ i j, E i j = true → i < n ∧ j < m := by rw [hE]; exact EQ_lt
  have hEq : ∀ i j, E i j = (decide (i < n) && (decide (j < m) && decide (X i = Y j))) := by rw [hE]; intro i j; rfl
  rw [← hE]
  have HEQ : Hid _ := hEq
  have HX : Hid _ := hx
  have HY : Hid _ := hy
  have HB : Hid _ := hb
  clear hEq hE hx hy hb
  have hnb : ((n : Int) == 0) = false := by simp; omega
  have hmb : ((m : Int) == 0) = false := by simp; omega
  go_enter Try.func14, Try.ntmps14
  go_wp2_with (first
    | (at_make; refine wpList_make_full _ rfl _ _ 22 rfl w.heap.size 3 i0 _ 1 Try.underlying22 hi hz0 hz1 .i64 .i64 _ _ (2 * mid + 1) rfl rfl (by omega) (by omega) (by rw [hz2]; omega) (by unfold maxLen; omega) (Nat.le_refl _) ?_; intro w1 hown1 hgrow1))
  have hst0 : St w w1 bb w.heap.size mid (.slice none 0 0) 0 B (fun _ => 0) (fun _ => 0) (fun _ => 0) (fun _ _ => 0) :=
    ⟨⟨hgrow1.os, hgrow1.tape, hgrow1.output, hgrow1.size, fun k hk hne => hgrow1.block k hk (by simp)⟩, (hgrow1.block bb hbl (by simp)).trans HB.out, RowZ.of_made hown1 rfl, World.ownsRow_nil _ _ _ _, fun t ht => by omega⟩
  clear hown1 hgrow1
  go_loopw [11, 12] (fun v dv wr => ∃ (d : Nat) (b s : Int) (F : Int → Int) (gs cs : Nat → Nat) (S : Nat → Int → Int), dv = .int .i64 d ∧ St w wr bb w.heap.size mid v d b F gs cs S ∧ Inv E n m (min n m) B d b s F S) (fun _ dv _ => (n + m + 1) - (intOf dv).toNat)
  case atStart => exact ⟨0, B, 0, _, _, _, _, rfl, hst0, ⟨by simp, by omega, by simp, by omega, by omega, fun h => by omega, fun _ => rfl, fun d' h => by omega, fun k _ => rfl, fun k => by simp, fun t h1 h2 => by omega⟩⟩
  case round =>
    obtain ⟨d, b, s, F, gs, cs, S, rfl, hst, hinv⟩ := hrel
    clear hst0
    have hdle : d ≤ dist E n m := not_before hElt (Nat.le_refl _) d hinv.notyet
    have hdnm : d ≤ n + m := Nat.le_trans hdle (by unfold dist; omega)
    have hbc := hst.budCell
    have hbf := hst.budFree
    have hblo := hinv.lo
    have hbhi := hinv.hi
    by_cases hneg : b - (2 * d + 1) < 0
    · go_wp2_with fail
      go_ret
      have h1 := hst.setBud hbl (b - (2 * d + 1))
      refine ⟨h1.grown, _, h1.bud, .inl ⟨rfl, d, s, hdle, ?_, by omega, hinv.s0, hinv.s1, hinv.zero⟩⟩
      rw [sq_succ, hinv.bud]; omega
    · have hst1 := hst.setBud hbl (b - (2 * d + 1))
      have hcl : ∀ t : Nat, t < 2 * d + 1 → (wr.setCell ⟨bb, 0, none⟩ (.int .i64 (b - (2 * d + 1)))).cell? ⟨w.heap.size, mid - d + t, none⟩ = some (.int .i64 (F ((t : Int) - d))) := by
        intro t ht
        have := hst1.fur.cell ((t : Int) - d) (by omega) (by omega)
        rwa [show ((mid : Int) + ((t : Int) - d)).toNat = mid - d + t by omega] at this
      have HCL : Hid _ := hcl
      clear hcl
      have hmd : mid + d + 1 - (mid - d) = 2 * d + 1 := by omega
      have hmd1 : d ≤ mid := by omega
      have hmd2 : mid + d + 1 ≤ 2 * mid + 1 := by omega
      go_wp2_with (first
        | (go_at_call 16; refine (clone_any _ _ _ _ (fun t : Nat => F ((t : Int) - d)) _ (by omega) (by omega) HCL.out).mono ?_; rintro e w2 ⟨v2, rfl, hown2, hbel2⟩; obtain ⟨g, c_, rfl, hgb, hz⟩ := clone_shape hown2; have hst2 := hst1.below hbel2; have hgw : w.heap.size < g := by (have := hst1.fur.lt; simp at hgb this; omega))
        | (at_builtin; refine wpList_append_own _ rfl _ _ 41 rfl (w.heap.size + 1) 22 i1 (.slice none 0 0) 1 24 Try.underlying41 hi1 hy0 hy1 hy2 rfl (by decide) _ _ _ rfl (hst2.tr.alloc _) ⟨w2.heap.size, 0, none⟩ 1 1 [.slice (some ⟨g, 0, none⟩) (2 * d + 1) c_] rfl rfl (cells_one _ _ _) (by intro u hu; simp at hu; subst hu; rfl) (by unfold maxLen; omega) (by omega) (by have := hst2.fur.lt; simp; omega) ?_; intro v3 w3 hown3 hgrow3 _; have hst3 := (hst2.below ((Below.refl _ _).alloc (Nat.le_refl _) _)).push hbl (Nat.le_refl _) g c_ F hgw (hz.alloc _) hown3 hgrow3; clear hown3 hgrow3 hst2 hz hown2 hbel2))
      clear hbc hbf hst hst1 HCL
      obtain ⟨tb, tcap, rfl⟩ : ∃ tb tcap, v3 = .slice (some ⟨tb, 0, none⟩) (d + 1) tcap := by
        rcases hst3.tr.2 with ⟨_, h2⟩ | ⟨tb, tcap, cur, h1, _⟩
        · omega
        · exact ⟨tb, tcap, h1⟩
      go_loopw [13] (fun kv wr => ∃ (c : Nat) (b' s' : Int) (F' : Int → Int), kv = .int .i64 (-(d : Int) + 2 * c) ∧ c ≤ d + 1 ∧
          St w wr bb w.heap.size mid (.slice (some ⟨tb, 0, none⟩) (d + 1) tcap) (d + 1) b' F' (fun t => if t = d then g else gs t) (fun t => if t = d then c_ else cs t) (fun t => if t = d then F else S t) ∧ InvK E n m (min n m) d c (b - (2 * d + 1)) b' s s' F F') (fun kv _ => ((d : Int) + 2 - intOf kv).toNat)
      case atStart => exact ⟨0, _, 0, F, by simp, by omega, hst3, InvK.start hinv _⟩
      case round =>
        obtain ⟨c, b', s', F', rfl, hcd, hst, hik⟩ := hrel
        clear hst3
        by_cases hck : c ≤ d
        · obtain ⟨k, hk⟩ : ∃ k : Int, -(d : Int) + 2 * c = k := ⟨_, rfl⟩
          have hon : On d k := by rw [← hk]; exact on_next hck
          have hk1 : -(d : Int) ≤ k := by omega
          have hk2 : k ≤ d := by omega
          obtain ⟨kc, hkc⟩ : ∃ kc : Nat, (mid : Int) + k = kc := ⟨((mid : Int) + k).toNat, by omega⟩
          have hc1 : wr.cell? ⟨w.heap.size, kc - 1, none⟩ = some (.int .i64 (F' (k - 1))) := by
            have := hst.fur.cell (k - 1) (by omega) (by omega)
            rwa [show ((mid : Int) + (k - 1)).toNat = kc - 1 by omega] at this
          have hc2 : wr.cell? ⟨w.heap.size, kc + 1, none⟩ = some (.int .i64 (F' (k + 1))) := by
            have := hst.fur.cell (k + 1) (by omega) (by omega)
            rwa [show ((mid : Int) + (k + 1)).toNat = kc + 1 by omega] at this
          have hc0 : wr.cell? ⟨w.heap.size, kc, none⟩ = some (.int .i64 (F' k)) := by
            have := hst.fur.cell k (by omega) (by omega)
            rwa [show ((mid : Int) + k).toNat = kc by omega] at this
          have hkc1 : 1 ≤ kc := by omega
          have hkc2 : kc + 1 < 2 * mid + 1 := by omega
          have hf1 := hik.fbd (k - 1)
          have hf2 := hik.fbd (k + 1)
          obtain ⟨hf1a, hf1b⟩ := hf1
          obtain ⟨hf2a, hf2b⟩ := hf2
          have hGn := G_nonneg E n d k hon
          obtain ⟨p, hp⟩ : ∃ p : Nat, pickI (G E n d) d k = p := ⟨(pickI (G E n d) d k).toNat, by omega⟩
          have hpb := pick_bd hinv hon
          rw [hp] at hpb
          have hpb1 : (p : Int) ≤ 262145 := by omega
          obtain ⟨q, hq⟩ : ∃ q : Nat, (p : Int) - k = q := ⟨((p : Int) - k).toNat, by omega⟩
          have HK : Hid _ := hk
          have HP : Hid _ := hp
          have HM : Hid _ := hmid
          rw [hk]
          clear hk hp hGn
          have hdb1 : (d : Int) ≤ 131072 := by omega
          have hmb1 : (mid : Int) ≤ 131073 := by have := HM.out; omega
          have hkb1 : k ≤ 131072 := by omega
          have hkb2 : -131072 ≤ k := by omega
          have hblo' := bud_lo hik (by omega) hck (by omega) (by omega)
          obtain ⟨hblo1, hblo2⟩ := hblo'
          have hneg' : IntKind.i64.wrap (-(d : Int)) = -(d : Int) := wrap_neg d (by omega)
          go_upto_region 18 with fail
          go_cut [109] (fun cv wx => cv = .bool (up (G E n d) d k) ∧ ∃ q, wx = wr.drewN q)
          case first =>
            by_cases h1 : k = -(d : Int)
            · have hb1 : (k == -(d : Int)) = true := by simp [h1]
              have HU : Hid (up (G E n d) d k = true) := up_low h1
              clear h1
              go_quiet (fail)
              go_wp2_with fail
              go_meet
              case rel => exact ⟨by rw [HU.out], nq, rfl⟩
            · have hb1 : (k == -(d : Int)) = false := by simp [h1]
              by_cases h2 : k = (d : Int)
              · have hb2 : (k != (d : Int)) = false := by simp [h2]
                have HU : Hid (up (G E n d) d k = false) := up_high h2 (by omega)
                clear h2 h1
                go_quiet (fail)
                go_wp2_with fail
                go_meet
                case rel => exact ⟨by rw [HU.out], nq, rfl⟩
              · have hb2 : (k != (d : Int)) = true := by simp [h2]
                have HU : Hid (up (G E n d) d k = decide (F' (k - 1) < F' (k + 1))) := by
                  show _ = _
                  rw [up_mid h1 h2, read_left hinv hik hon h1, read_up hinv hik hon (.inl h2)]
                clear h1 h2
                go_quiet (fail)
                go_wp2_with fail
                go_meet
                case rel => exact ⟨by rw [HU.out], nq, rfl⟩
          case rest =>
            obtain ⟨rfl, q1, rfl⟩ := hcut
            go_upto_if 109 with fail
            go_cut [14] (fun iv wx => iv = .int .i64 p ∧ wx = wr.drewN q1)
            case first =>
              cases hu : up (G E n d) d k
              · have hpl := pick_false hinv hik hon hu
                rw [HP.out] at hpl
                have HPL : Hid _ := hpl
                clear hpl hu
                go_wp2_with fail
                go_meet
                case rel => exact ⟨by rw [HPL.out], rfl⟩
              · have hpl := pick_true hinv hik hon hu
                rw [HP.out] at hpl
                have HPL : Hid _ := hpl
                clear hpl hu
                go_wp2_with fail
                go_meet
                case rel => exact ⟨by rw [HPL.out], rfl⟩
            case rest =>
              obtain ⟨rfl, rfl⟩ := hcut
              go_wp2_with fail
              have hst0 := hst.drewN q1
              clear hc1 hc2 hc0 hst
              go_loopw [14, 15] (fun iv jv wx => ∃ i j t : Nat, iv = .int .i64 i ∧ jv = .int .i64 j ∧ Hid (i = p + t ∧ j = q + t) ∧ t ≤ min n m ∧ (∀ u, u < t → E (p + u) (q + u) = true) ∧
                  St w wx bb w.heap.size mid (.slice (some ⟨tb, 0, none⟩) (d + 1) tcap) (d + 1) (b' - t) F' (fun t => if t = d then g else gs t) (fun t => if t = d then c_ else cs t) (fun t => if t = d then F else S t)) (fun iv _ _ => n - (intOf iv).toNat)
              case atStart => exact ⟨p, q, 0, rfl, rfl, ⟨rfl, rfl⟩, by omega, fun u h => by omega, by simpa using hst0⟩
              case round =>
                obtain ⟨i, j, t, rfl, rfl, hij, htm, hall, hst⟩ := hrel
                have HALL : Hid _ := hall
                have hib : i ≤ 400000 := by have := hij.out; omega
                have hjb : j ≤ 600000 := by have := hij.out; omega
                clear hst0 hall
                go_upto_region 21 with fail
                go_cut [138] (fun cv wx => cv = .bool (E i j) ∧ ∃ q, wx = wr.drewN q)
                case first =>
                  by_cases h1 : i < n
                  · by_cases h2 : j < m
                    · have hcx : wr.cell? ⟨bx, i, none⟩ = some (.int .i64 (X i)) := hst.grown.cell (HX.out i h1) (by simpa using hbx)
                      have hcy : wr.cell? ⟨by_, j, none⟩ = some (.int .i64 (Y j)) := hst.grown.cell (HY.out j h2) (by simpa using hby)
                      have HU : Hid (E i j = (X i == Y j)) := by
                        show _ = _
                        rw [HEQ.out, decide_eq_true h1, decide_eq_true h2]; simp; rfl
                      go_quiet (fail)
                      go_wp2_with fail
                      go_meet
                      case rel => exact ⟨by rw [HU.out], nq, rfl⟩
                    · have hd2 : decide ((j : Int) < (m : Int)) = false := decide_eq_false (by omega)
                      have HU : Hid (E i j = false) := by
                        show _ = _
                        rw [HEQ.out, decide_eq_true h1, decide_eq_false h2]; rfl
                      go_quiet (fail)
                      go_wp2_with fail
                      go_meet
                      case rel => exact ⟨by rw [HU.out], nq, rfl⟩
                  · have hd1 : decide ((i : Int) < (n : Int)) = false := decide_eq_false (by omega)
                    have HU : Hid (E i j = false) := by
                      show _ = _
                      rw [HEQ.out, decide_eq_false h1]; rfl
                    go_quiet (fail)
                    go_wp2_with fail
                    go_meet
                    case rel => exact ⟨by rw [HU.out], nq, rfl⟩
                case rest =>
                  obtain ⟨rfl, q2, rfl⟩ := hcut
                  have hst2 := hst.drewN q2
                  have hbc := hst.budCell
                  have hbf := hst.budFree
                  cases hEij : E i j
                  · -- they part: the furthest point is kept
                    have hc0 : wr.cell? ⟨w.heap.size, kc, none⟩ = some (.int .i64 (F' k)) := by
                      have := hst.fur.cell k (by omega) (by omega)
                      rwa [show ((mid : Int) + k).toNat = kc by omega] at this
                    have hfz := hst.fur.frozen kc
                    have hG : G E n (d + 1) k = (p : Int) + t := G_of_run hElt HP.out hq HALL.out (by rw [← hij.out.1, ← hij.out.2]; exact hEij)
                    have hst3 := hst2.setFur hbl (Nat.le_refl _) k ((p : Int) + t) (by omega) (by omega)
                    rw [show ((mid : Int) + k).toNat = kc by omega] at hst3
                    have hip : (i : Int) = (p : Int) + t := by have := hij.out; omega
                    have hjq : (j : Int) = (i : Int) - k := by have := hij.out; omega
                    have HST3 : Hid _ := hst3
                    have HG : Hid _ := hG
                    have HIP : Hid _ := hip
                    have HJQ : Hid _ := hjq
                    clear hG hip hjq hst3 hEij hst2 hbc hbf
                    have NEXT : Hid (¬ (n ≤ i ∧ m ≤ j) → ∃ (c : Nat) (b'' s'' : Int) (F'' : Int → Int), Value.int .i64 (k + 2) = .int .i64 (-(d : Int) + 2 * c) ∧ c ≤ d + 1 ∧
                        St w ((wr.drewN q2).setCell ⟨w.heap.size, kc, none⟩ (.int .i64 i)) bb w.heap.size mid (.slice (some ⟨tb, 0, none⟩) (d + 1) tcap) (d + 1) b'' F'' (fun t => if t = d then g else gs t) (fun t => if t = d then c_ else cs t) (fun t => if t = d then F else S t) ∧ InvK E n m (min n m) d c (b - (2 * d + 1)) b'' s s'' F F'') := by
                      intro hnd
                      have h5 := HK.out
                      have h6 := HIP.out
                      have h7 := HJQ.out
                      have h8 := HG.out
                      have h9 := hij.out
                      refine ⟨c + 1, b' - t, s' + t, _, by congr 1; omega, by omega, by rw [h6]; exact HST3.out, InvK.next hinv hik hck h5.symm t p HP.out h8 htm ?_ ?_⟩
                      · by_cases e : t = 0
                        · omega
                        · have := hElt _ _ (HALL.out (t - 1) (by omega)); omega
                      · intro hdn
                        unfold Done at hdn
                        rw [h8] at hdn
                        exact hnd (by omega)
                    by_cases hin : n ≤ i
                    · by_cases hjm : m ≤ j
                      · have hdone : Done E n n m d k := by
                          have h6 := HIP.out
                          have h7 := HJQ.out
                          unfold Done
                          rw [HG.out]; omega
                        obtain ⟨hdist, hkn, hend⟩ := first_done hElt (Nat.le_refl _) d k hon hdone hinv.notyet
                        have hpn : (p : Int) + t = n := by rw [← HG.out]; exact hend
                        have FN := fin_num hinv hik hck hon t p (by omega) HP.out hdist hkn hpn htm
                        obtain ⟨F4, hst4⟩ : ∃ F4, St w ((wr.drewN q2).setCell ⟨w.heap.size, kc, none⟩ (.int .i64 i)) bb w.heap.size mid (.slice (some ⟨tb, 0, none⟩) (d + 1) tcap) (d + 1) (b' - t) F4 (fun t => if t = d then g else gs t) (fun t => if t = d then c_ else cs t) (fun t => if t = d then F else S t) :=
                          ⟨_, by rw [HIP.out]; exact HST3.out⟩
                        have hon' := hon
                        have hend' := hend
                        rw [hkn] at hon' hend'
                        have HC := editsOf_any E n n m d tb tcap _ _ _ _ hn hm hElt hn0 hdnm hst4.trace (trace_vals hinv) hon' hend'
                        have HDIST : Hid _ := hdist
                        have HFN : Hid _ := FN
                        clear NEXT hdist hkn hend hon' hend' FN hpn hdone
                        go_wp2_with (go_at_call 17; refine HC.mono ?_; rintro e w5 ⟨g5, cap5, L5, rfl, hr5, hb5, hg5, hv5, hc5⟩)
                        have hst5 := hst4.below hb5
                        go_ret
                        refine ⟨hst5.grown, _, hst5.bud, .inr ⟨g5, cap5, L5, d, s + s' + t, rfl, hr5, ?_, hv5, hc5, HDIST.out, HFN.out.1, HFN.out.2.1, HFN.out.2.2.1, HFN.out.2.2.2.1, HFN.out.2.2.2.2⟩⟩
                        exact Nat.le_trans hst4.grown.size hg5
                      · go_wp2_with fail
                        go_roundw
                        case rel => exact NEXT.out (by omega)
                        case measure => simp [intOf]; omega
                    · go_wp2_with fail
                      go_roundw
                      case rel => exact NEXT.out (by omega)
                      case measure => simp [intOf]; omega
                  · -- one step on
                    have hlt := hElt i j hEij
                    have HEIJ : Hid (E i j = true) := hEij
                    clear hEij
                    go_wp2_with fail
                    go_roundw
                    case rel =>
                      refine ⟨i + 1, j + 1, t + 1, by go_num, by go_num, ?_, ?_, ?_, ?_⟩
                      · have := hij.out; exact ⟨by omega, by omega⟩
                      · have := hij.out; omega
                      · intro u hu
                        by_cases e : u = t
                        · subst e; rw [← hij.out.1, ← hij.out.2]; exact HEIJ.out
                        · exact HALL.out u (by omega)
                      · have h5 := hst2.setBud hbl (b' - t - 1)
                        rw [show b' - ((t + 1 : Nat) : Int) = b' - t - 1 by omega]
                        exact h5
                    case measure => simp [intOf]; omega
        · obtain rfl : c = d + 1 := by omega
          have hkd : (d : Int) < -(d : Int) + 2 * ((d + 1 : Nat) : Int) := by omega
          go_wp2_with fail
          go_roundw
          case rel => exact ⟨d + 1, b', s + s', F', _, _, _, by go_num, hst, hinv.next (by omega) (by omega) (by omega) hik⟩
          case measure => simp [intOf]; omega
end Go.Proofs.Qxb6601753a
