/-
  No cell of these rows narrows 'for every input' (looked for: loops, veiled, ifaces, maps, wideKeys, modest, calm, conditions, laid).
  DERIVED. THE GIVEN ROWS OF THIS SEAT. 3 by the template 'for every input the law returns true; each argument reads behind the call as it read before'; 0 by the template 'total and deterministic' (their statements: Qxb6601753aTotals.lean).
  GIVEN WITH THE SEED: the statements are not yours to turn. If you find one false, say at which input.
  Laid BY PROGRAM, IN A SANDBOX (cutbox-rows.mjs): the forced cells as the released guide's own fill.sh prints them over the translation 117c8d18276e8e83… (all of the seat's roots in one cut). By AI agents, Wed Nov 11 2026. No macro, syntax, notation, axiom, sorry.
-/
import Derived.Test.Qxb6601753aChecked
import GoSem.Claim
import GoSem.ClaimJoined
import GoSem.ClaimMapViews
import Derived.JoinedTies
import Derived.KernelRfl
namespace Go.Proofs.Qxb6601753a
/- THE CELL 'sum', in the pinned program and in every row, IS THE sha256 OF THE DUMP (.gsa) THAT Qxb6601753aProg.lean LOADS. Nothing in Lean hashes anything: it is a label: what it is worth is what the hold of that sum in a sandbox is worth. -/
noncomputable def Try.pinned : Pinned := { name := "qxb6601753a", sum := "117c8d18276e8e83c34798f6b0d335eddd41e599fb2fd478e6dd233f1588bfd6", checked := Try.checked }
namespace Rows
def none {H : Type} : Left H := { results := [], args := [] }

/-- 'zzlaws_root_b1.FnShortestEditIsAShortestScript': WHATEVER THE INPUT: true; the input reads as it did. -/
def fnShortestEditIsAShortestScriptSpec : ChangeSpec := { name := "fnShortestEditIsAShortestScript", fn := fun _ => fun
  | [d1, d2, d3] => { results := [.lit (.bool true)], args := [d1, d2, d3] }
  | _ => none }
def fnShortestEditIsAShortestScriptRow : OpenClaim := { program := "qxb6601753a", sum := "117c8d18276e8e83c34798f6b0d335eddd41e599fb2fd478e6dd233f1588bfd6", func := "example.com/json-object-ops/json-object-ops/zzlaws_root_b1.FnShortestEditIsAShortestScript", spec := "fnShortestEditIsAShortestScript", apart := false }
def FnShortestEditIsAShortestScriptSaid : Prop := fnShortestEditIsAShortestScriptRow.holds Try.pinned (OpenSpec.ofChange fnShortestEditIsAShortestScriptSpec)

/-- ITS FALSE NEIGHBOUR: 'it returns false'. Refute it at one input. -/
def fnShortestEditIsAShortestScriptWrong : ChangeSpec := { name := "fnShortestEditIsAShortestScript", fn := fun _ => fun
  | [d1, d2, d3] => { results := [.lit (.bool false)], args := [d1, d2, d3] }
  | _ => none }
def FnShortestEditIsAShortestScriptWrongFalsely : Prop := fnShortestEditIsAShortestScriptRow.holds Try.pinned (OpenSpec.ofChange fnShortestEditIsAShortestScriptWrong)

/-- 'zzlaws_root_b1.FnShortestEditBudgetOnlyDecidesWhether': WHATEVER THE INPUT: true; the input reads as it did. -/
def fnShortestEditBudgetOnlyDecidesWhetherSpec : ChangeSpec := { name := "fnShortestEditBudgetOnlyDecidesWhether", fn := fun _ => fun
  | [d1, d2, d3, d4] => { results := [.lit (.bool true)], args := [d1, d2, d3, d4] }
  | _ => none }
def fnShortestEditBudgetOnlyDecidesWhetherRow : OpenClaim := { program := "qxb6601753a", sum := "117c8d18276e8e83c34798f6b0d335eddd41e599fb2fd478e6dd233f1588bfd6", func := "example.com/json-object-ops/json-object-ops/zzlaws_root_b1.FnShortestEditBudgetOnlyDecidesWhether", spec := "fnShortestEditBudgetOnlyDecidesWhether", apart := false }
def FnShortestEditBudgetOnlyDecidesWhetherSaid : Prop := fnShortestEditBudgetOnlyDecidesWhetherRow.holds Try.pinned (OpenSpec.ofChange fnShortestEditBudgetOnlyDecidesWhetherSpec)

/-- ITS FALSE NEIGHBOUR: 'it returns false'. Refute it at one input. -/
def fnShortestEditBudgetOnlyDecidesWhetherWrong : ChangeSpec := { name := "fnShortestEditBudgetOnlyDecidesWhether", fn := fun _ => fun
  | [d1, d2, d3, d4] => { results := [.lit (.bool false)], args := [d1, d2, d3, d4] }
  | _ => none }
def FnShortestEditBudgetOnlyDecidesWhetherWrongFalsely : Prop := fnShortestEditBudgetOnlyDecidesWhetherRow.holds Try.pinned (OpenSpec.ofChange fnShortestEditBudgetOnlyDecidesWhetherWrong)

/-- 'zzlaws_root_b1.FnShortestEditOfASequenceWithItself': WHATEVER THE INPUT: true; the input reads as it did. -/
def fnShortestEditOfASequenceWithItselfSpec : ChangeSpec := { name := "fnShortestEditOfASequenceWithItself", fn := fun _ => fun
  | [d1, d2] => { results := [.lit (.bool true)], args := [d1, d2] }
  | _ => none }
def fnShortestEditOfASequenceWithItselfRow : OpenClaim := { program := "qxb6601753a", sum := "117c8d18276e8e83c34798f6b0d335eddd41e599fb2fd478e6dd233f1588bfd6", func := "example.com/json-object-ops/json-object-ops/zzlaws_root_b1.FnShortestEditOfASequenceWithItself", spec := "fnShortestEditOfASequenceWithItself", apart := false }
def FnShortestEditOfASequenceWithItselfSaid : Prop := fnShortestEditOfASequenceWithItselfRow.holds Try.pinned (OpenSpec.ofChange fnShortestEditOfASequenceWithItselfSpec)

/-- ITS FALSE NEIGHBOUR: 'it returns false'. Refute it at one input. -/
def fnShortestEditOfASequenceWithItselfWrong : ChangeSpec := { name := "fnShortestEditOfASequenceWithItself", fn := fun _ => fun
  | [d1, d2] => { results := [.lit (.bool false)], args := [d1, d2] }
  | _ => none }
def FnShortestEditOfASequenceWithItselfWrongFalsely : Prop := fnShortestEditOfASequenceWithItselfRow.holds Try.pinned (OpenSpec.ofChange fnShortestEditOfASequenceWithItselfWrong)

end Rows
end Go.Proofs.Qxb6601753a
