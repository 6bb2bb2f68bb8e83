import Derived.Test.Qxb6601753aRows
import Derived.Test.Qxb6601753aMyers
import Derived.WalkKit
import Derived.ProofKit
import Derived.OpenShut
import Derived.Below
import Derived.Lib.SliceRun
import Derived.CellFam
namespace Go.Proofs.Qxb6601753a
open Go.ChangeShapes Go.WideShapes Go.ChangeAt Go.RowKit
set_option linter.unusedVariables false

theorem info3 : (Try.prog.info? 3).map (fun i => (i.zero, i.size, i.bytes)) = some (some (.int .i64 0), 1, 8) := by kernel_rfl
theorem info22 : (Try.prog.info? 22).map (fun i => (i.zero, i.size, i.bytes)) = some (some (.slice none 0 0), 1, 24) := by kernel_rfl
theorem info39 : (Try.prog.info? 39).map (fun i => (i.zero, i.size, i.bytes)) = some (some (.agg #[.int .i64 0, .int .i64 0, .int .i64 0]), 3, 24) := by kernel_rfl
theorem info32 : (Try.prog.info? 32).map (fun i => (i.zero, i.size, i.bytes)) = some (some (.agg #[.int .i64 0, .int .i64 0, .int .i64 0]), 3, 24) := by kernel_rfl

theorem ownsRow_below {w w' : World} {base : Nat} {e : TypeId} {size : Nat} {v : Value} {n : Nat} {xs : List Value} (h : w.ownsRow base e size v n xs) (hb : Below w.heap.size w w') :
    w'.ownsRow base e size v n xs := by
  refine ⟨h.1, ?_⟩
  rcases h.2 with h2 | ⟨g, cap, cur, h1, h2, h3, h4, h5, h6, h7⟩
  · exact .inl h2
  · refine .inr ⟨g, cap, cur, h1, h2, ?_, h4, h5, h6, h7⟩
    rw [hb.block g (Array.getElem?_eq_some_iff.1 h3).1]; exact h3

set_option maxHeartbeats 400000 in
/-- slices.Clone at a slice that is not nil and not empty. -/
theorem clone_any (b off n cap : Nat) (f : Nat → Int) (w : World) (hn : 0 < n) (hbig : n ≤ 1000000) (hc : ∀ t, t < n → w.cell? ⟨b, off + t, none⟩ = some (.int .i64 (f t))) :
    Calls Try.prog 16 #[.slice (some ⟨b, off, none⟩) n cap] w fun e w' => ∃ v, e = .returned v ∧ w'.ownsRow w.heap.size 3 1 v n ((List.range n).map fun t => .int .i64 (f t)) ∧ Below w.heap.size w w' := by
  obtain ⟨i0, hi, hz0, hz1, hz2⟩ := info_parts info3
  have q22 := fun (w : World) => Lib.run_eql_slice_nil w 22 3 (some ⟨b, off, none⟩) n cap 0 0 Try.underlying22
  have HC : Hid _ := hc
  clear hc
  go_enter Try.func16, Try.ntmps16
  go_wp2_with (at_builtin; refine wpList_append_own _ rfl _ _ 22 rfl w.heap.size 3 i0 (.int .i64 0) 1 8 Try.underlying22 hi hz0 hz1 hz2 rfl (by decide) _ _ _ rfl (World.ownsRow_made w #[] 0 (Nat.le_refl _) (Nat.zero_le _) (by simp)) ⟨b, off, none⟩ n cap ((List.range n).map fun t => .int .i64 (f t)) rfl ?q1 ?q2 ?q3 ?q4 ?q5 ?q6 ?_)
  case q1 => simp
  case q2 =>
    intro j u hj
    have hlt : j < n := by have := (List.getElem?_eq_some_iff.1 hj).1; simpa using this
    rw [List.getElem?_map, List.getElem?_range hlt] at hj
    simp at hj; subst hj
    rw [add_plain, World.cell?_alloc_past]
    · exact HC.out j hlt
    · exact World.block_lt_of_cell? _ _ (HC.out j hlt)
  case q3 => intro u hu; obtain ⟨t, _, rfl⟩ := List.mem_map.1 hu; rfl
  case q4 => unfold maxLen; omega
  case q5 => omega
  case q6 => simp
  intro v' w1 hown hgrow hnil
  go_wp2
  go_ret
  refine ⟨v', rfl, by simpa using hown, ?_⟩
  exact ((Below.refl _ w).alloc (Nat.le_refl _) _).grown hgrow (by simp) (by intro k hk; simp [Value.ownBlock] at hk; omega)
end Go.Proofs.Qxb6601753a
