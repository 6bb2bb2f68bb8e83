import Derived.Test.Qxb6601753aShort
namespace Go.Proofs.Qxb6601753a
open Go.ChangeShapes Go.WideShapes Go.ChangeAt Go.RowKit
open Plain
set_option linter.unusedVariables false

theorem grown_below {w wr w2 : World} {r : Option Nat} (h : w.grownBy wr r) (hb : Below wr.heap.size wr w2) : w.grownBy w2 r :=
  ⟨hb.os.trans h.os, hb.tape.trans h.tape, hb.output.trans h.output, Nat.le_trans h.size hb.size, fun k hk hne => (hb.block k (Nat.lt_of_lt_of_le hk h.size)).trans (h.block k hk hne)⟩

set_option maxRecDepth 100000 in
/-- shortestEdit where one of the two is empty. -/
theorem short_empty (n m cx cy : Nat) (ax ay : Option Addr) (ptr : Value) (w : World) (hn : n ≤ 65536) (hm : m ≤ 65536) (h0 : n = 0 ∨ m = 0) :
    Calls Try.prog 14 #[.slice ax n cx, .slice ay m cy, ptr] w fun e w' => e = .returned (.slice (some ⟨w.heap.size, 0, none⟩) (n + m) (n + m)) ∧ RowE w' w.heap.size (n + m) 39 (n + m) (repl n) ∧ Below w.heap.size w w' ∧ w.heap.size < w'.heap.size := by
  by_cases hn0 : n = 0
  · have hnb : ((n : Int) == 0) = true := by simp [hn0]
    have HN : Hid _ := hn0
    clear h0 hn0
    go_enter Try.func14, Try.ntmps14
    go_wp2_with (go_at_call 15; refine (replacingEdit_any n m _ (by omega) (by omega)).mono ?_; rintro e w2 ⟨rfl, hr, hb, hs⟩)
    go_ret
    exact ⟨rfl, hr, hb, hs⟩
  · have hm0 : m = 0 := by omega
    have hnb : ((n : Int) == 0) = false := by simp; omega
    have hmb : ((m : Int) == 0) = true := by simp [hm0]
    clear h0 hn0 hm0
    go_enter Try.func14, Try.ntmps14
    go_wp2_with (go_at_call 15; refine (replacingEdit_any n m _ (by omega) (by omega)).mono ?_; rintro e w2 ⟨rfl, hr, hb, hs⟩)
    go_ret
    exact ⟨rfl, hr, hb, hs⟩

/-- ZZShortestEdit where one of the two is empty. -/
theorem zz_empty (n m cx cy : Nat) (ax ay : Option Addr) (ptr : Value) (w : World) (hn : n ≤ 65536) (hm : m ≤ 65536) (h0 : n = 0 ∨ m = 0) :
    Calls Try.prog 7 #[.slice ax n cx, .slice ay m cy, ptr] w fun e w' => ∃ g, e = .returned (.slice (some ⟨g, 0, none⟩) (n + m) (n + m)) ∧ RowE w' g (n + m) 32 (n + m) (repl n) ∧ Below w.heap.size w w' := by
  have HC := short_empty n m cx cy ax ay ptr w hn hm h0
  clear h0
  go_enter Try.func7, Try.ntmps7
  go_wp2_with (first
    | (go_at_call 14; refine HC.mono ?_; rintro e w2 ⟨rfl, hr, hb, hs⟩)
    | (go_at_call 13; refine (editsOut_some _ _ _ _ _ (by omega) hr).mono ?_; rintro e w3 ⟨rfl, hr3, hb3⟩))
  go_ret
  exact ⟨_, rfl, hr3, hb.trans (hb3.mono hb.size)⟩

/-- ZZShortestEdit where none is. -/
theorem zz_any (n m bx cx by_ cy bb : Nat) (X Y : Nat → Int) (B : Int) (w : World) (hn : n ≤ 65536) (hm : m ≤ 65536) (hn0 : 0 < n) (hm0 : 0 < m) (hB1 : -1073741824 ≤ B) (hB2 : B ≤ 9223372036854775807)
    (hx : ∀ t, t < n → w.cell? ⟨bx, t, none⟩ = some (.int .i64 (X t))) (hy : ∀ t, t < m → w.cell? ⟨by_, t, none⟩ = some (.int .i64 (Y t)))
    (hb : w.heap[bb]? = some (.cells #[.int .i64 B] 3 (0, 0))) (hbx : bx ≠ bb) (hby : by_ ≠ bb) :
    Calls Try.prog 7 #[.slice (some ⟨bx, 0, none⟩) n cx, .slice (some ⟨by_, 0, none⟩) m cy, .pointer (some ⟨bb, 0, none⟩)] w fun e w' => w.grownBy w' (some bb) ∧ ∃ b' : Int, w'.heap[bb]? = some (.cells #[.int .i64 b'] 3 (0, 0)) ∧
      ((e = .returned (.slice none 0 0) ∧ ∃ (d : Nat) (s : Int), d ≤ dist (EQ X Y n m) n m ∧ b' = B - ((d + 1 : Nat) : Int) * ((d + 1 : Nat) : Int) - s ∧ b' < 0 ∧ 0 ≤ s ∧ 2 * s ≤ ((d * (d + 1) * min n m : Nat) : Int) ∧ (d = 0 → s = 0)) ∨
       (∃ (g : Nat) (L : List (Int × Int × Int)) (D : Nat) (s : Int), e = .returned (.slice (some ⟨g, 0, none⟩) L.length L.length) ∧ RowE w' g L.length 32 L.length (fun t => L.getD t (0, 0, 0)) ∧
          Valid (EQ X Y n m) n m 0 0 L ∧ chg L = D ∧ D = dist (EQ X Y n m) n m ∧ b' = B - ((D + 1 : Nat) : Int) * ((D + 1 : Nat) : Int) - s ∧ ((D + 1 : Nat) : Int) * ((D + 1 : Nat) : Int) ≤ B ∧
          (lc (EQ X Y n m) n m : Nat) ≤ s ∧ 2 * s ≤ (((D + 1) * (D + 2) * min n m : Nat) : Int) ∧ (D = 0 → s = n))) := by
  have HC := short_any n m bx cx by_ cy bb X Y B w hn hm hn0 hm0 hB1 hB2 hx hy hb hbx hby
  clear hx hy hb
  go_enter Try.func7, Try.ntmps7
  go_wp2_with (go_at_call 14; refine HC.mono ?_; rintro e w2 ⟨hg2, b', hb2, ⟨rfl, hnil⟩ | ⟨g, cap, L, D, s, rfl, hr, hgs, hv, hrest⟩⟩)
  · go_wp2_with (go_at_call 13; refine (editsOut_nil _).mono ?_; rintro e w3 ⟨rfl, rfl⟩)
    go_ret
    exact ⟨hg2, b', hb2, .inl ⟨rfl, hnil⟩⟩
  · have hlen := (valid_length EQ_lt _ _ _ hv).2.2
    go_wp2_with (go_at_call 13; refine (editsOut_some _ _ _ _ _ (by omega) hr).mono ?_; rintro e w3 ⟨rfl, hr3, hb3⟩)
    go_ret
    exact ⟨grown_below hg2 hb3, b', (hb3.block bb (lt_of_block hb2)).trans hb2, .inr ⟨_, L, D, s, rfl, hr3, hv, hrest⟩⟩
end Go.Proofs.Qxb6601753a
