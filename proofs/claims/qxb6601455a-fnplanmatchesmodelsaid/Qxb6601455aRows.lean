/-
  No cell of these rows narrows 'for every input' (looked for: loops, veiled, ifaces, maps, wideKeys, modest, calm, conditions, laid).
  DERIVED. THE GIVEN ROWS OF THIS SEAT. 3 by the template 'for every input the law returns true; each argument reads behind the call as it read before'; 0 by the template 'total and deterministic' (their statements: Qxb6601455aTotals.lean).
  GIVEN WITH THE SEED: the statements are not yours to turn. If you find one false, say at which input.
  Laid BY PROGRAM, IN A SANDBOX (cutbox-rows.mjs): the forced cells as the released guide's own fill.sh prints them over the translation 23e9fde74de71060… (all of the seat's roots in one cut). By AI agents, Wed Nov 11 2026. No macro, syntax, notation, axiom, sorry.
-/
import Derived.Test.Qxb6601455aChecked
import GoSem.Claim
import GoSem.ClaimJoined
import GoSem.ClaimMapViews
import Derived.JoinedTies
import Derived.KernelRfl
namespace Go.Proofs.Qxb6601455a
/- THE CELL 'sum', in the pinned program and in every row, IS THE sha256 OF THE DUMP (.gsa) THAT Qxb6601455aProg.lean LOADS. Nothing in Lean hashes anything: it is a label: what it is worth is what the hold of that sum in a sandbox is worth. -/
noncomputable def Try.pinned : Pinned := { name := "qxb6601455a", sum := "23e9fde74de71060d976f2f2b7a1873bdb5487245ab62b425854ecf65c4526ed", checked := Try.checked }
namespace Rows
def none {H : Type} : Left H := { results := [], args := [] }

/-- 'zzlaws_pkg_postgres_b1.FnPlanMatchesModel': WHATEVER THE INPUT: true; the input reads as it did. -/
def fnPlanMatchesModelSpec : ChangeSpec := { name := "fnPlanMatchesModel", fn := fun _ => fun
  | [d1, d2, d3] => { results := [.lit (.bool true)], args := [d1, d2, d3] }
  | _ => none }
def fnPlanMatchesModelRow : OpenClaim := { program := "qxb6601455a", sum := "23e9fde74de71060d976f2f2b7a1873bdb5487245ab62b425854ecf65c4526ed", func := "example.com/outbox-relay/outbox-relay/zzlaws_pkg_postgres_b1.FnPlanMatchesModel", spec := "fnPlanMatchesModel", recurses := true, apart := false }
def FnPlanMatchesModelSaid : Prop := fnPlanMatchesModelRow.holds Try.pinned (OpenSpec.ofChange fnPlanMatchesModelSpec)

/-- ITS FALSE NEIGHBOUR: 'it returns false'. Refute it at one input. -/
def fnPlanMatchesModelWrong : ChangeSpec := { name := "fnPlanMatchesModel", fn := fun _ => fun
  | [d1, d2, d3] => { results := [.lit (.bool false)], args := [d1, d2, d3] }
  | _ => none }
def FnPlanMatchesModelWrongFalsely : Prop := fnPlanMatchesModelRow.holds Try.pinned (OpenSpec.ofChange fnPlanMatchesModelWrong)

/-- 'zzlaws_pkg_postgres_b1.FnPlanSharesSumToKeyGroups': WHATEVER THE INPUT: true; the input reads as it did. -/
def fnPlanSharesSumToKeyGroupsSpec : ChangeSpec := { name := "fnPlanSharesSumToKeyGroups", fn := fun _ => fun
  | [d1, d2] => { results := [.lit (.bool true)], args := [d1, d2] }
  | _ => none }
def fnPlanSharesSumToKeyGroupsRow : OpenClaim := { program := "qxb6601455a", sum := "23e9fde74de71060d976f2f2b7a1873bdb5487245ab62b425854ecf65c4526ed", func := "example.com/outbox-relay/outbox-relay/zzlaws_pkg_postgres_b1.FnPlanSharesSumToKeyGroups", spec := "fnPlanSharesSumToKeyGroups", recurses := true, apart := false }
def FnPlanSharesSumToKeyGroupsSaid : Prop := fnPlanSharesSumToKeyGroupsRow.holds Try.pinned (OpenSpec.ofChange fnPlanSharesSumToKeyGroupsSpec)

/-- ITS FALSE NEIGHBOUR: 'it returns false'. Refute it at one input. -/
def fnPlanSharesSumToKeyGroupsWrong : ChangeSpec := { name := "fnPlanSharesSumToKeyGroups", fn := fun _ => fun
  | [d1, d2] => { results := [.lit (.bool false)], args := [d1, d2] }
  | _ => none }
def FnPlanSharesSumToKeyGroupsWrongFalsely : Prop := fnPlanSharesSumToKeyGroupsRow.holds Try.pinned (OpenSpec.ofChange fnPlanSharesSumToKeyGroupsWrong)

/-- 'zzlaws_pkg_postgres_b1.FnPlanAppliedIsSettled': WHATEVER THE INPUT: true; the input reads as it did. -/
def fnPlanAppliedIsSettledSpec : ChangeSpec := { name := "fnPlanAppliedIsSettled", fn := fun _ => fun
  | [d1, d2, d3] => { results := [.lit (.bool true)], args := [d1, d2, d3] }
  | _ => none }
def fnPlanAppliedIsSettledRow : OpenClaim := { program := "qxb6601455a", sum := "23e9fde74de71060d976f2f2b7a1873bdb5487245ab62b425854ecf65c4526ed", func := "example.com/outbox-relay/outbox-relay/zzlaws_pkg_postgres_b1.FnPlanAppliedIsSettled", spec := "fnPlanAppliedIsSettled", recurses := true, apart := false }
def FnPlanAppliedIsSettledSaid : Prop := fnPlanAppliedIsSettledRow.holds Try.pinned (OpenSpec.ofChange fnPlanAppliedIsSettledSpec)

/-- ITS FALSE NEIGHBOUR: 'it returns false'. Refute it at one input. -/
def fnPlanAppliedIsSettledWrong : ChangeSpec := { name := "fnPlanAppliedIsSettled", fn := fun _ => fun
  | [d1, d2, d3] => { results := [.lit (.bool false)], args := [d1, d2, d3] }
  | _ => none }
def FnPlanAppliedIsSettledWrongFalsely : Prop := fnPlanAppliedIsSettledRow.holds Try.pinned (OpenSpec.ofChange fnPlanAppliedIsSettledWrong)

end Rows
end Go.Proofs.Qxb6601455a
