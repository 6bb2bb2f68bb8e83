import Derived.Test.Qxb6601455aPlan
namespace Go.Proofs.Qxb6601455a
open Go.ChangeShapes Go.WideShapes Go.ChangeAt Go.RowKit Go.Maps
set_option linter.unusedVariables false

/-- The row of locks while it is being filled: the first k pairs stand. -/
def Row2J (w : World) (g n k : Nat) (P K : Array Int) : Prop :=
  ∃ cur : Array Value, w.heap[g]? = some (.cells cur 35 (0, 0)) ∧ ∀ t, t < n → ∃ x y, cur[t * 2]? = some (.int .i32 x) ∧ cur[t * 2 + 1]? = some (.int .i32 y) ∧ (t < k → x = P[t]! ∧ y = K[t]!)

theorem Row2J.made {w : World} {base g n : Nat} (P K : Array Int) (h : w.ownsRow base 35 2 (.slice (some ⟨g, 0, none⟩) n n) n (madeCells (Value.agg #[.int .i32 0, .int .i32 0]).cells (n * 2)).toList) : Row2J w g n 0 P K := by
  rcases h.2 with ⟨h', _⟩ | ⟨g', cap', cur, h', hb, hg, hnc, hcm, hcs, htake⟩
  · simp at h'
  · simp only [Value.slice.injEq, Option.some.injEq, Addr.mk.injEq, and_true, true_and] at h'
    obtain ⟨rfl, rfl⟩ := h'
    have key : ∀ j, j < n * 2 → cur[j]? = some (.int .i32 0) := by
      intro j hj
      have e1 : cur[j]? = (cur.toList.take (n * 2))[j]? := by rw [List.getElem?_take, if_pos hj]; simp
      rw [e1, htake]
      simp [madeCells, Value.cells, hj]
      have : j % 2 = 0 ∨ j % 2 = 1 := by omega
      rcases this with h | h <;> rw [h] <;> rfl
    exact ⟨cur, hg, fun t ht => ⟨0, 0, key _ (by omega), key _ (by omega), fun h => by omega⟩⟩
theorem Row2J.cells {w : World} {g n k : Nat} {P K : Array Int} (h : Row2J w g n k P K) (t : Nat) (ht : t < n) : ∃ x y, w.cell? ⟨g, t * 2, none⟩ = some (.int .i32 x) ∧ w.cell? ⟨g, t * 2 + 1, none⟩ = some (.int .i32 y) := by
  obtain ⟨cur, h1, h2⟩ := h
  obtain ⟨x, y, a, b, _⟩ := h2 t ht
  exact ⟨x, y, by rw [cell_of_row w g _ cur 35 (0, 0) h1]; exact a, by rw [cell_of_row w g _ cur 35 (0, 0) h1]; exact b⟩
theorem Row2J.frozen {w : World} {g n k : Nat} {P K : Array Int} (h : Row2J w g n k P K) (t : Nat) : w.frozen? ⟨g, t, none⟩ = false := by
  obtain ⟨cur, h1, _⟩ := h
  exact frozen_of_row w g t cur 35 h1
theorem Row2J.put {w : World} {g n k : Nat} {P K : Array Int} (h : Row2J w g n k P K) (hk : k < n) :
    Row2J ((w.setCell ⟨g, k * 2, none⟩ (.int .i32 P[k]!)).setCell ⟨g, k * 2 + 1, none⟩ (.int .i32 K[k]!)) g n (k + 1) P K := by
  obtain ⟨cur, h1, h5⟩ := h
  have e1 := heap_setCell_same w g (k * 2) cur 35 (.int .i32 P[k]!) h1
  have e2 := heap_setCell_same _ g (k * 2 + 1) _ 35 (.int .i32 K[k]!) e1
  refine ⟨_, e2, ?_⟩
  intro t ht
  obtain ⟨x, y, a, b, c⟩ := h5 t ht
  have la := (Array.getElem?_eq_some_iff.1 a).1
  have lb := (Array.getElem?_eq_some_iff.1 b).1
  simp only [Array.getElem?_setIfInBounds, Array.size_setIfInBounds]
  by_cases hti : t = k
  · subst hti
    refine ⟨P[t]!, K[t]!, ?_, ?_, fun _ => ⟨rfl, rfl⟩⟩
    · rw [if_neg (by omega), if_pos rfl, if_pos la]
    · rw [if_pos rfl, if_pos lb]
  · refine ⟨x, y, ?_, ?_, fun h => c (by omega)⟩
    · rw [if_neg (by omega), if_neg (by omega)]; exact a
    · rw [if_neg (by omega), if_neg (by omega)]; exact b
theorem Row2J.drew {w : World} {g n k : Nat} {P K : Array Int} (h : Row2J w g n k P K) : Row2J w.drew g n k P K := h
theorem Row2J.all {w : World} {g n : Nat} {P K : Array Int} (h : Row2J w g n n P K) : Row2 w g n P K := by
  obtain ⟨cur, h1, h5⟩ := h
  refine ⟨cur, h1, fun t ht => ?_⟩
  obtain ⟨x, y, a, b, c⟩ := h5 t ht
  obtain ⟨rfl, rfl⟩ := c ht
  exact ⟨a, b⟩

theorem rd_shape {w : World} {v : Value} {l : List Int} (h : Rd64 w v l) : ∃ a n c, v = .slice a n c := by
  obtain ⟨a, c, rfl, _⟩ := h
  exact ⟨a, _, c, rfl⟩

set_option maxRecDepth 100000 in
set_option maxHeartbeats 4000000 in
theorem zzPlan_any (a0 a1 : Option Addr) (cap0 cap1 n : Nat) (P K : Array Int) (pid : Int) (w : World) (h0 : Rd32 w a0 P) (h1 : Rd32 w a1 K) (hP : P.size = n) (hK : K.size = n) (hn : n ≤ 70000) (hPf : Fits P) (hKf : Fits K) (hpid : -2147483648 ≤ pid ∧ pid ≤ 2147483647) :
    Calls Try.prog 9 #[.slice a0 n cap0, .slice a1 n cap1, .int .i32 pid] w fun e w' => ∃ vH vR vT, e = .returned (.tuple #[.int .i64 ((memb P K pid n).length : Nat), .int .i64 (shareOf (memb P K pid n) pid), vH, vR, vT]) ∧
      Rd64 w' vH (heldL P K n pid 64) ∧ Rd64 w' vR (relL (shareOf (memb P K pid n) pid) (heldL P K n pid 64)) ∧ Rd64 w' vT (takeL (shareOf (memb P K pid n) pid) (heldL P K n pid 64) (freeL P K n 64)) ∧ Below w.heap.size w w' := by
  obtain ⟨i0, hi, hz0, hz1, hz2⟩ := info_parts info35
  have HP : Hid _ := hP
  have HK : Hid _ := hK
  clear hP hK
  go_enter Try.func9, Try.ntmps9
  go_wp2_with (first
    | (at_make; refine wpList_make_full _ rfl _ _ 33 rfl w.heap.size 35 i0 _ 2 Try.underlying33 hi hz0 hz1 .i64 .i64 _ _ n rfl rfl (by omega) (by omega) (by rw [hz2]; omega) (by unfold maxLen; omega) (Nat.le_refl _) ?_; intro w1 hown1 hgrow1))
  have hb1 : Below w.heap.size w w1 := (Below.refl _ _).grown hgrow1 (Nat.le_refl _) (fun k hk => by cases hk)
  have hr1 := Row2J.made P K hown1
  clear hown1 hgrow1
  go_loopw [19] (fun i wr => ∃ k : Nat, k ≤ n ∧ i = .int .i64 k ∧ Row2J wr w.heap.size n k P K ∧ Below w.heap.size w wr) (fun i _ => n - (intOf i).toNat)
  case atStart => exact ⟨0, Nat.zero_le _, rfl, hr1, hb1⟩
  case round =>
    obtain ⟨k, hk, rfl, hr, hb⟩ := hrel
    clear hr1 hb1
    by_cases hlt : k < n
    · obtain ⟨g0, rfl, q0⟩ := h0.pos (by have := HP.out; omega)
      obtain ⟨g1, rfl, q1⟩ := h1.pos (by have := HK.out; omega)
      have c0 := (q0.below hb q0.lt).cell k (by have := HP.out; omega)
      have c1 := (q1.below hb q1.lt).cell k (by have := HK.out; omega)
      obtain ⟨b0, b1, e0, e1⟩ := hr.cells k hlt
      have hfz := hr.frozen
      have hput := (hr.put hlt).drew
      obtain ⟨y, hye⟩ : ∃ y, P[k]! = y := ⟨_, rfl⟩
      obtain ⟨z, hze⟩ : ∃ z, K[k]! = z := ⟨_, rfl⟩
      rw [hye] at c0 hput
      rw [hze] at c1 hput
      clear hye hze
      go_wp2
      go_region
      all_goals go_wp2
      go_roundw
      case rel => exact ⟨k + 1, by omega, by go_num, hput, ((hb.setCell (Nat.le_refl _) _).setCell (Nat.le_refl _) _).drew⟩
      case measure => simp [intOf]; omega
    · obtain rfl : k = n := by omega
      have hR := hr.all
      obtain ⟨m, hm⟩ : ∃ m : Nat, (memb P K pid k).length = m := ⟨_, rfl⟩
      obtain ⟨S, hS⟩ : ∃ S : Int, shareOf (memb P K pid k) pid = S := ⟨_, rfl⟩
      have c := fun cap w2 hR => plan_any w.heap.size cap k P K pid w2 hR hn (by have := HP.out; omega) (by have := HK.out; omega) hPf hKf hpid
      rw [hm, hS] at c
      have HM : Hid _ := hm
      have HS : Hid _ := hS
      clear hm hS
      go_upto_region 7 with fail
      go_wp2_with (first
        | (go_at_call 14; refine (c _ _ hR).mono ?_; rintro e w2 ⟨vH, vR, vT, rfl, rH, rR, rT, hb2⟩; obtain ⟨aH, lH, cH, rfl⟩ := rd_shape rH; obtain ⟨aR, lR, cR, rfl⟩ := rd_shape rR; obtain ⟨aT, lT, cT, rfl⟩ := rd_shape rT; have RH : Hid _ := rH; have RR : Hid _ := rR; have RT : Hid _ := rT; clear rH rR rT)
        | go_in)
      go_quiet (fail)
      (try go_wp2_with fail)
      (try simp only [Exit.inBlock, Exit.then])
      refine bodyPost_ret (v := .tuple #[.int .i64 m, .int .i64 S, .slice aH lH cH, .slice aR lR cR, .slice aT lT cT]) (by simp [results, Try.f9, go_sem]) rfl ?_
      have hb9 := below_drewN ((Below.refl w2.heap.size w2).alloc (Nat.le_refl _) (Obj.cells #[.int .i64 m, .int .i64 S, .slice aH lH cH, .slice aR lR cR, .slice aT lT cT] 37)) nq
      refine ⟨_, _, _, by rw [HM.out, HS.out], Rd64.below RH.out hb9, ?_, ?_, (hb.trans (hb2.mono hb.size)).trans (hb9.mono (Nat.le_trans hb.size hb2.size))⟩
      · rw [HS.out]; exact Rd64.below RR.out hb9
      · rw [HS.out]; exact Rd64.below RT.out hb9
end Go.Proofs.Qxb6601455a
