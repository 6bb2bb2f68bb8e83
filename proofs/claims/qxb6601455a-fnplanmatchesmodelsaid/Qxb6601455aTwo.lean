import Derived.Test.Qxb6601455aZZ
import Derived.Test.Qxb6601455aLaw
namespace Go.Proofs.Qxb6601455a
open Go.ChangeShapes Go.WideShapes Go.ChangeAt Go.RowKit Go.Maps
set_option linter.unusedVariables false

/-- Two rows of one's own, apart from each other. -/
structure Two (base : Nat) (w0 : World) (tA tB : TypeId) (vA vB : Value) (xs ys : List Value) (wr : World) : Prop where
  ownA : wr.ownsRow base tA 1 vA xs.length xs
  ownB : wr.ownsRow base tB 1 vB ys.length ys
  ne : vA.ownBlock = none ∨ vB.ownBlock = none ∨ vA.ownBlock ≠ vB.ownBlock
  bel : Below base w0 wr
  sz : base ≤ wr.heap.size

theorem Two.alloc {base : Nat} {w0 : World} {tA tB : TypeId} {vA vB : Value} {xs ys : List Value} {wr : World} (h : Two base w0 tA tB vA vB xs ys wr) (o : Obj) : Two base w0 tA tB vA vB xs ys (wr.alloc o) :=
  ⟨h.ownA.alloc _, h.ownB.alloc _, h.ne, h.bel.alloc h.sz _, by have := h.sz; simp; omega⟩
theorem Two.drewN {base : Nat} {w0 : World} {tA tB : TypeId} {vA vB : Value} {xs ys : List Value} {wr : World} (h : Two base w0 tA tB vA vB xs ys wr) (q : Nat) : Two base w0 tA tB vA vB xs ys (wr.drewN q) :=
  ⟨h.ownA, h.ownB, h.ne, below_drewN h.bel q, h.sz⟩
theorem grown_of_below {wr w2 : World} (h : Below wr.heap.size wr w2) : wr.grownBy w2 none := ⟨h.os, h.tape, h.output, h.size, fun k hk _ => h.block k hk⟩
theorem none_or (x : Option Nat) : x ≠ none ∨ x = none := by cases x <;> simp
theorem Two.below {base : Nat} {w0 : World} {tA tB : TypeId} {vA vB : Value} {xs ys : List Value} {wr w2 : World} (h : Two base w0 tA tB vA vB xs ys wr) (hb : Below wr.heap.size wr w2) : Two base w0 tA tB vA vB xs ys w2 :=
  ⟨owns_keep h.ownA (grown_of_below hb) (none_or _), owns_keep h.ownB (grown_of_below hb) (none_or _), h.ne, h.bel.trans (hb.mono h.sz), Nat.le_trans h.sz hb.size⟩
theorem Two.appA {base : Nat} {w0 : World} {tA tB : TypeId} {vA vB v1 : Value} {xs ys : List Value} {x : Value} {wr w1 : World} (h : Two base w0 tA tB vA vB xs ys wr)
    (ho : w1.ownsRow base tA 1 v1 (xs.length + 1) (xs ++ [x])) (hk : wr.grownBy w1 vA.ownBlock) (hat : v1.ownBlock = vA.ownBlock ∨ v1.ownBlock = some wr.heap.size) : Two base w0 tA tB v1 vB (xs ++ [x]) ys w1 := by
  refine ⟨by simpa using ho, owns_keep h.ownB hk ?_, ?_, h.bel.grown hk h.sz (fun k hk => (owns_base h.ownA _ hk).1), Nat.le_trans h.sz hk.size⟩
  · rcases h.ne with h1 | h1 | h1
    · rw [h1]; exact none_or _
    · exact .inr h1
    · exact .inl (fun e => h1 e.symm)
  · rcases hat with h1 | h1
    · rw [h1]; exact h.ne
    · refine .inr (.inr ?_)
      rw [h1]; intro e
      have := (owns_base h.ownB _ e.symm).2; omega
theorem Two.appB {base : Nat} {w0 : World} {tA tB : TypeId} {vA vB v1 : Value} {xs ys : List Value} {x : Value} {wr w1 : World} (h : Two base w0 tA tB vA vB xs ys wr)
    (ho : w1.ownsRow base tB 1 v1 (ys.length + 1) (ys ++ [x])) (hk : wr.grownBy w1 vB.ownBlock) (hat : v1.ownBlock = vB.ownBlock ∨ v1.ownBlock = some wr.heap.size) : Two base w0 tA tB vA v1 xs (ys ++ [x]) w1 := by
  refine ⟨owns_keep h.ownA hk ?_, by simpa using ho, ?_, h.bel.grown hk h.sz (fun k hk => (owns_base h.ownB _ hk).1), Nat.le_trans h.sz hk.size⟩
  · rcases h.ne with h1 | h1 | h1
    · exact .inr h1
    · rw [h1]; exact none_or _
    · exact .inl h1
  · rcases hat with h1 | h1
    · rw [h1]; exact h.ne
    · refine .inr (.inr ?_)
      rw [h1]; intro e
      have := (owns_base h.ownA _ e).2; omega

theorem own_cell {wr : World} {base : Nat} {e : TypeId} {g n cap : Nat} {xs : List Value} (h : wr.ownsRow base e 1 (.slice (some ⟨g, 0, none⟩) n cap) n xs) (t : Nat) (ht : t < n) :
    wr.cell? ⟨g, t, none⟩ = some (xs.getD t undef) := by
  rcases h.2 with ⟨h2, _⟩ | ⟨g', cap', cur, h1, h2, h3, h4, h5, h6, h7⟩
  · simp at h2
  · simp only [Value.slice.injEq, Option.some.injEq, Addr.mk.injEq, and_true, true_and] at h1
    obtain ⟨rfl, rfl⟩ := h1
    have hl := h.1
    rw [cell_of_row wr g _ cur e (0, 0) h3]
    have e1 : cur[t]? = (cur.toList.take (n * 1))[t]? := by rw [List.getElem?_take, if_pos (by omega)]; simp
    rw [e1, h7, List.getD_eq_getElem?_getD, List.getElem?_eq_getElem (by omega)]
    rfl

theorem Came.below {w w' : World} {a : Option Addr} {len cap : Nat} {d : Array Int} (h : Came w a len cap d) (hb : Below w.heap.size w w') : Came w' a len cap d := by
  obtain ⟨h1, h2, h3⟩ := h
  refine ⟨h1, h2, ?_⟩
  rcases h3 with h3 | ⟨x, hx, hc⟩
  · exact .inl h3
  · exact .inr ⟨x, hx, fun t ht => by rw [hb.cell (block_of_cell (hc t ht))]; exact hc t ht⟩

theorem zz3_in (a b : Option Addr) (n c m e : Nat) (x : Int) (w : World) (hn : n ≤ 65536) (hm : m ≤ 65536) :
    Calls Try.prog 6 #[.slice a n c, .slice b m e, .int .i32 x] w fun e w' => e = .returned (.bool true) ∧ w' = w := by
  go_enter Try.func6, Try.ntmps6
  go_wp2_with fail
  go_ret
  exact ⟨rfl, rfl⟩
theorem zz4_in (a b : Option Addr) (n c m e : Nat) (w : World) (hn : n ≤ 65536) (hm : m ≤ 65536) :
    Calls Try.prog 11 #[.slice a n c, .slice b m e] w fun e w' => e = .returned (.bool true) ∧ w' = w := by
  go_enter Try.func11, Try.ntmps11
  go_wp2_with fail
  go_ret
  exact ⟨rfl, rfl⟩

set_option maxRecDepth 100000 in
set_option maxHeartbeats 2000000 in
theorem law4_out (a b : Option Addr) (n c m e : Nat) (w : World) (hn : n ≤ maxLen) (hm : m ≤ maxLen) (h : ¬ (n ≤ 4096 ∧ m = n)) :
    Calls Try.prog 4 #[.slice a n c, .slice b m e] w fun e w' => e = .returned (.bool true) ∧ w' = w := by
  have HC := zz4_any a b n c m e w hn hm
  by_cases h1 : n ≤ 4096
  · by_cases h2 : m ≤ 4096
    · have h3 : n ≠ m := by omega
      clear h
      go_enter Try.func4, Try.ntmps4
      go_wp2_with (go_at_call 11; refine HC.mono ?_; rintro e w' ⟨⟨r, rfl⟩, rfl⟩; cases r)
      all_goals
        go_wp2_with fail
        go_ret
        exact ⟨rfl, rfl⟩
    · clear h
      go_enter Try.func4, Try.ntmps4
      go_wp2_with (go_at_call 11; refine HC.mono ?_; rintro e w' ⟨⟨r, rfl⟩, rfl⟩; cases r)
      all_goals
        go_wp2_with fail
        go_ret
        exact ⟨rfl, rfl⟩
  · clear h
    go_enter Try.func4, Try.ntmps4
    go_wp2_with (go_at_call 11; refine HC.mono ?_; rintro e w' ⟨⟨r, rfl⟩, rfl⟩; cases r)
    all_goals
      go_wp2_with fail
      go_ret
      exact ⟨rfl, rfl⟩
set_option maxRecDepth 100000 in
set_option maxHeartbeats 2000000 in
theorem law3_out (a b : Option Addr) (n c m e : Nat) (x : Int) (w : World) (hn : n ≤ maxLen) (hm : m ≤ maxLen) (h : ¬ (n ≤ 65536 ∧ m = n)) :
    Calls Try.prog 3 #[.slice a n c, .slice b m e, .int .i32 x] w fun e w' => e = .returned (.bool true) ∧ w' = w := by
  have HC := zz3_any a b n c m e x w hn hm
  by_cases h1 : n ≤ 65536
  · by_cases h2 : m ≤ 65536
    · have h3 : n ≠ m := by omega
      clear h
      go_enter Try.func3, Try.ntmps3
      go_wp2_with (go_at_call 6; refine HC.mono ?_; rintro e w' ⟨⟨r, rfl⟩, rfl⟩; cases r)
      all_goals
        go_wp2_with fail
        go_ret
        exact ⟨rfl, rfl⟩
    · clear h
      go_enter Try.func3, Try.ntmps3
      go_wp2_with (go_at_call 6; refine HC.mono ?_; rintro e w' ⟨⟨r, rfl⟩, rfl⟩; cases r)
      all_goals
        go_wp2_with fail
        go_ret
        exact ⟨rfl, rfl⟩
  · clear h
    go_enter Try.func3, Try.ntmps3
    go_wp2_with (go_at_call 6; refine HC.mono ?_; rintro e w' ⟨⟨r, rfl⟩, rfl⟩; cases r)
    all_goals
      go_wp2_with fail
      go_ret
      exact ⟨rfl, rfl⟩
end Go.Proofs.Qxb6601455a
