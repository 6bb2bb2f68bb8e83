import Derived.Test.Qxb6601455aSort
import Derived.Lib.SliceRun
namespace Go.Proofs.Qxb6601455a
open Go.ChangeShapes Go.WideShapes Go.ChangeAt Go.RowKit
open Go.Sort (swp ltInt PermIn SortedIn swo_ltInt)
set_option linter.unusedVariables false

theorem info21 : (Try.prog.info? 21).map (fun i => (i.zero, i.size, i.bytes)) = some (some (.int .i32 0), 1, 4) := by kernel_rfl
theorem info3 : (Try.prog.info? 3).map (fun i => (i.zero, i.size, i.bytes)) = some (some (.int .i64 0), 1, 8) := by kernel_rfl
theorem info35 : (Try.prog.info? 35).map (fun i => (i.zero, i.size, i.bytes)) = some (some (.agg #[.int .i32 0, .int .i32 0]), 2, 8) := by kernel_rfl

/-- A slice of int32: empty, or a row. -/
def Rd32 (w : World) (a : Option Addr) (d : Array Int) : Prop := d.size = 0 ∨ ∃ g, a = some ⟨g, 0, none⟩ ∧ RowA w g d
theorem Rd32.pos {w : World} {a : Option Addr} {d : Array Int} (h : Rd32 w a d) (hp : 0 < d.size) : ∃ g, a = some ⟨g, 0, none⟩ ∧ RowA w g d := by
  rcases h with h | h
  · omega
  · exact h
theorem Rd32.below {w w' : World} {a : Option Addr} {d : Array Int} (h : Rd32 w a d) (hb : Below w.heap.size w w') : Rd32 w' a d := by
  rcases h with h | ⟨g, h1, h2⟩
  · exact .inl h
  · exact .inr ⟨g, h1, h2.below hb h2.lt⟩

/-- Every element fits an int32. -/
def Fits (d : Array Int) : Prop := ∀ t, t < d.size → -2147483648 ≤ d[t]! ∧ d[t]! ≤ 2147483647

theorem RowA.made {w : World} {base g n : Nat} (h : w.ownsRow base 21 1 (.slice (some ⟨g, 0, none⟩) n n) n (madeCells (Value.int .i32 0).cells (n * 1)).toList) : RowA w g (Array.replicate n 0) := by
  rcases h.2 with ⟨h', _⟩ | ⟨g', cap', cur, h', hb, hg, hnc, hcm, hcs, htake⟩
  · simp at h'
  · simp only [Value.slice.injEq, Option.some.injEq, Addr.mk.injEq, and_true, true_and] at h'
    obtain ⟨rfl, rfl⟩ := h'
    refine ⟨cur, hg, fun t ht => ?_⟩
    rw [Array.size_replicate] at ht
    have e1 : cur[t]? = (cur.toList.take (n * 1))[t]? := by rw [List.getElem?_take, if_pos (by omega)]; simp
    rw [e1, htake]
    simp [madeCells, Value.cells]
    refine ⟨t, ?_, ?_⟩
    · rw [List.getElem?_range ht]
    · rw [Nat.mod_one]
      have : (Array.replicate n (0 : Int))[t]! = 0 := by simp [ht]
      rw [this]; rfl

theorem block_of_cell {w : World} {p : Addr} {v : Value} (h : w.cell? p = some v) : p.block < w.heap.size := by
  rcases Nat.lt_or_ge p.block w.heap.size with h1 | h1
  · exact h1
  · exfalso
    have e : w.heap[p.block]? = none := Array.getElem?_eq_none h1
    simp [World.cell?, e] at h

theorem below_drewN {B : Nat} {a w : World} (h : Below B a w) (q : Nat) : Below B a (w.drewN q) := ⟨h.os, h.tape, h.output, h.size, h.block⟩

set_option maxHeartbeats 2000000 in
theorem clone_some (x : Addr) (cap : Nat) (d : Array Int) (w : World) (hbig : d.size ≤ 1000000) (hc : ∀ t, t < d.size → w.cell? (x.add t) = some (.int .i32 d[t]!)) :
    Calls Try.prog 7 #[.slice (some x) d.size cap] w fun e w' => e = .returned (.slice (some ⟨w.heap.size, 0, none⟩) d.size d.size) ∧ RowA w' w.heap.size d ∧ Below w.heap.size w w' := by
  have q22 := fun (w : World) => Lib.run_eql_slice_nil w 22 21 (some x) d.size cap 0 0 Try.underlying22
  obtain ⟨i0, hi, hz0, hz1, hz2⟩ := info_parts info21
  go_enter Try.func7, Try.ntmps7
  go_wp2_with (first
    | (at_make; refine wpList_make_full _ rfl _ _ 22 rfl w.heap.size 21 i0 _ 1 Try.underlying22 hi hz0 hz1 .i64 .i64 _ _ d.size rfl rfl (by omega) (by omega) (by rw [hz2]; omega) (by unfold maxLen; omega) (Nat.le_refl _) ?_; intro w1 hown1 hgrow1))
  have hb1 : Below w.heap.size w w1 := (Below.refl _ _).grown hgrow1 (Nat.le_refl _) (fun k hk => by cases hk)
  have hr1 := RowA.made hown1
  clear hown1 hgrow1
  go_loopw [4] (fun i wr => ∃ (k : Nat) (dk : Array Int), k ≤ d.size ∧ i = .int .i64 k ∧ dk.size = d.size ∧ (∀ t, t < k → dk[t]! = d[t]!) ∧ RowA wr w.heap.size dk ∧ Below w.heap.size w wr) (fun i _ => d.size - (intOf i).toNat)
  case atStart => exact ⟨0, _, Nat.zero_le _, rfl, Array.size_replicate .., fun t ht => by omega, hr1, hb1⟩
  case round =>
    obtain ⟨k, dk, hk, rfl, hs, he, hr, hb⟩ := hrel
    clear hr1 hb1
    have HE : Hid _ := he
    clear he
    by_cases hlt : k < d.size
    · have c1 : wr.cell? (x.add k) = some (.int .i32 d[k]!) := by
        rw [hb.cell (block_of_cell (hc k hlt))]; exact hc k hlt
      obtain ⟨z, hz⟩ : ∃ z, d[k]! = z := ⟨_, rfl⟩
      rw [hz] at c1
      have HZ : Hid _ := hz
      clear hz
      have c2 := hr.cell k (by omega)
      have hfz := hr.frozen
      have HS : Hid _ := hs
      go_wp2_with fail
      go_roundw
      case rel =>
        refine ⟨k + 1, dk.setIfInBounds k z, by omega, by go_num, by simpa using HS.out, fun t ht => ?_, hr.put k z, hb.setCell (Nat.le_refl _) _⟩
        by_cases e : t = k
        · subst e; rw [Go.Sort.getElem!_set_same _ _ _ (by have := HS.out; omega), HZ.out]
        · rw [Go.Sort.getElem!_set_other _ _ _ _ e]; exact HE.out t (by omega)
      case measure => simp [intOf]; omega
    · go_wp2_with fail
      go_ret
      have e : dk = d := by
        apply Array.ext hs
        intro i h1 h2
        have := HE.out i (by omega)
        rwa [getElem!_pos dk i h1, getElem!_pos d i h2] at this
      exact ⟨rfl, e ▸ hr, hb⟩

theorem clone_nil (w : World) :
    Calls Try.prog 7 #[.slice none 0 0] w fun e w' => e = .returned (.slice none 0 0) ∧ w' = w := by
  have q22 := fun (w : World) => Lib.run_eql_slice_nil w 22 21 none 0 0 0 0 Try.underlying22
  go_enter Try.func7, Try.ntmps7
  go_wp2_with fail
  go_ret
  exact ⟨rfl, rfl⟩

/-- What the walk is told of a slice of int32 that came in. -/
def Came (w : World) (a : Option Addr) (len cap : Nat) (d : Array Int) : Prop :=
  len = d.size ∧ Fits d ∧ ((a = none ∧ len = 0 ∧ cap = 0) ∨ ∃ x, a = some x ∧ ∀ t, t < d.size → w.cell? (x.add t) = some (.int .i32 d[t]!))

theorem clone_any (a : Option Addr) (len cap : Nat) (d : Array Int) (w : World) (h : Came w a len cap d) (hbig : len ≤ 1000000) :
    Calls Try.prog 7 #[.slice a len cap] w fun e w' => ∃ a' cap', e = .returned (.slice a' d.size cap') ∧ Rd32 w' a' d ∧ Below w.heap.size w w' := by
  obtain ⟨rfl, hf, ⟨rfl, h2, rfl⟩ | ⟨x, rfl, hc⟩⟩ := h
  · rw [h2]
    refine (clone_nil w).mono ?_
    rintro e w' ⟨rfl, rfl⟩
    exact ⟨none, 0, rfl, .inl h2, Below.refl _ _⟩
  · refine (clone_some x cap d w hbig hc).mono ?_
    rintro e w' ⟨rfl, h1, h2⟩
    exact ⟨_, _, rfl, .inr ⟨_, rfl, h1⟩, h2⟩

/-- The last holder of group g among the first n locks. -/
def lastH (P K : Array Int) (g : Int) : Nat → Option Int
  | 0 => none
  | n + 1 => if K[n]! = g then some P[n]! else lastH P K g n

theorem last_any (a0 a1 : Option Addr) (cap0 cap1 : Nat) (P K : Array Int) (g : Nat) (w : World) (h0 : Rd32 w a0 P) (h1 : Rd32 w a1 K) (hs : K.size = P.size) (hbig : P.size ≤ 1000000) (hg : g ≤ 64) (hK : Fits K) :
    Calls Try.prog 8 #[.slice a0 P.size cap0, .slice a1 P.size cap1, .int .i64 g] w fun e w' => e = .returned (.tuple #[.int .i32 ((lastH P K g P.size).getD 0), .bool (lastH P K g P.size).isSome]) ∧ w' = w := by
  obtain ⟨n, hn⟩ : ∃ n, P.size = n := ⟨_, rfl⟩
  rw [hn] at hbig hs
  rw [hn]
  have HN : Hid _ := hn
  clear hn
  obtain ⟨R, hR⟩ : ∃ R, lastH P K g n = R := ⟨_, rfl⟩
  rw [hR]
  have HR : Hid _ := hR
  clear hR
  have HK : Hid (Fits K) := hK
  clear hK
  have HS : Hid _ := hs
  clear hs
  go_enter Try.func8, Try.ntmps8
  go_wp2_with fail
  go_loop [8] (fun vi => ∃ m : Nat, vi = .int .i64 ((m : Int) - 1) ∧ m ≤ n ∧ lastH P K g m = R) (fun vi => (intOf vi + 1).toNat)
  case atStart => exact ⟨n, rfl, Nat.le_refl _, HR.out⟩
  case round =>
    obtain ⟨m, rfl, hm, hR⟩ := hrel
    cases m with
    | zero =>
      have HR2 : Hid (R = none) := by show _ = _; rw [← hR]; rfl
      clear hR
      go_wp2_with fail
      go_ret2
      rw [HR2.out]
      exact ⟨rfl, rfl⟩
    | succ i =>
      have e1 : ((i + 1 : Nat) : Int) - 1 = i := by omega
      rw [e1]
      obtain ⟨g0, rfl, hr0⟩ := h0.pos (by have := HN.out; omega)
      obtain ⟨g1, rfl, hr1⟩ := h1.pos (by have := HS.out; omega)
      have hki := HK.out i (by have := HS.out; omega)
      obtain ⟨z, hz⟩ : ∃ z, K[i]! = z := ⟨_, rfl⟩
      have c1 := hr1.cell i (by have := HS.out; omega)
      have c0 := hr0.cell i (by have := HN.out; omega)
      obtain ⟨y, hy⟩ : ∃ y, P[i]! = y := ⟨_, rfl⟩
      rw [hz] at c1 hki
      rw [hy] at c0
      have HR2 : Hid (R = if z = (g : Int) then some y else lastH P K g i) := by show _ = _; rw [← hR, ← hz, ← hy]; rfl
      clear hR hz hy
      have hin : (i : Int) < n := by omega
      by_cases hzg : z = (g : Int)
      · have hb : (z == (g : Int)) = true := by simp [hzg]
        have HZ : Hid _ := hzg
        clear hzg
        go_wp2_with fail
        go_ret2
        rw [HR2.out, if_pos HZ.out]
        exact ⟨rfl, rfl⟩
      · have hb : (z == (g : Int)) = false := by simp [hzg]
        have HZ : Hid _ := hzg
        clear hzg
        go_wp2_with fail
        go_round
        case rel => exact ⟨i, rfl, by omega, by rw [HR2.out, if_neg HZ.out]⟩
        case measure => simp [intOf]

/-- A slice of int that reads as the list l. -/
def Rd64 (w : World) (v : Value) (l : List Int) : Prop :=
  ∃ (a : Option Addr) (cap : Nat), v = .slice a l.length cap ∧ (l = [] ∨ ∃ g o, a = some ⟨g, o, none⟩ ∧ ∀ t, t < l.length → w.cell? ⟨g, o + t, none⟩ = some (.int .i64 (l.getD t 0)))
theorem Rd64.below {w w' : World} {v : Value} {l : List Int} (h : Rd64 w v l) (hb : Below w.heap.size w w') : Rd64 w' v l := by
  obtain ⟨a, cap, h1, h2⟩ := h
  refine ⟨a, cap, h1, ?_⟩
  rcases h2 with h2 | ⟨g, o, h3, h4⟩
  · exact .inl h2
  · exact .inr ⟨g, o, h3, fun t ht => by rw [hb.cell (block_of_cell (h4 t ht))]; exact h4 t ht⟩

theorem eqInts_any (v0 v1 : Value) (l : List Int) (w : World) (h0 : Rd64 w v0 l) (h1 : Rd64 w v1 l) (hbig : l.length ≤ 1000000) :
    Calls Try.prog 10 #[v0, v1] w fun e w' => e = .returned (.bool true) ∧ Below w.heap.size w w' := by
  obtain ⟨a0, cap0, rfl, h0⟩ := h0
  obtain ⟨a1, cap1, rfl, h1⟩ := h1
  obtain ⟨n, hn⟩ : ∃ n, l.length = n := ⟨_, rfl⟩
  rw [hn] at hbig h0 h1
  rw [hn]
  have HN : Hid _ := hn
  clear hn
  go_enter Try.func10, Try.ntmps10
  go_wp2_with fail
  go_loopw [5] (fun vi wr => ∃ i : Nat, vi = .int .i64 i ∧ i ≤ n ∧ Below w.heap.size w wr) (fun vi _ => n - (intOf vi).toNat)
  case atStart => exact ⟨0, rfl, by omega, Below.refl _ _⟩
  case round =>
    obtain ⟨i, rfl, hi, hb⟩ := hrel
    by_cases hlt : i < n
    · have hne : l ≠ [] := fun e => by have := HN.out; rw [e] at this; simp at this; omega
      obtain ⟨g0, o0, rfl, c0⟩ := h0.resolve_left hne
      obtain ⟨g1, o1, rfl, c1⟩ := h1.resolve_left hne
      have d0 := c0 i hlt
      have d1 := c1 i hlt
      rw [← hb.cell (block_of_cell d0)] at d0
      rw [← hb.cell (block_of_cell d1)] at d1
      clear h0 h1 c0 c1
      obtain ⟨z, hz⟩ : ∃ z, l.getD i 0 = z := ⟨_, rfl⟩
      rw [hz] at d0 d1
      clear hz hne
      go_upto_region 6 with fail
      go_quiet (fail)
      go_wp2_with fail
      go_roundw
      case rel => exact ⟨i + 1, by go_num, by omega, below_drewN hb _⟩
      case measure => simp [intOf]; omega
    · go_wp2_with fail
      go_ret
      exact ⟨rfl, hb⟩

theorem zz3_any (a0 a1 : Option Addr) (l0 c0 l1 c1 : Nat) (x : Int) (w : World) (h0 : l0 ≤ maxLen) (h1 : l1 ≤ maxLen) :
    Calls Try.prog 6 #[.slice a0 l0 c0, .slice a1 l1 c1, .int .i32 x] w fun e w' => (∃ r, e = .returned (.bool r)) ∧ w' = w := by
  unfold maxLen at h0 h1
  go_enter Try.func6, Try.ntmps6
  go_wp2_with fail
  all_goals go_ret
  all_goals exact ⟨⟨_, rfl⟩, rfl⟩
theorem zz4_any (a0 a1 : Option Addr) (l0 c0 l1 c1 : Nat) (w : World) (h0 : l0 ≤ maxLen) (h1 : l1 ≤ maxLen) :
    Calls Try.prog 11 #[.slice a0 l0 c0, .slice a1 l1 c1] w fun e w' => (∃ r, e = .returned (.bool r)) ∧ w' = w := by
  unfold maxLen at h0 h1
  go_enter Try.func11, Try.ntmps11
  go_wp2_with fail
  all_goals go_ret
  all_goals exact ⟨⟨_, rfl⟩, rfl⟩
end Go.Proofs.Qxb6601455a
