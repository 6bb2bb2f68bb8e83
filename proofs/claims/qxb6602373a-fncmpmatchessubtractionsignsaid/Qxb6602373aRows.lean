/-
  No cell of these rows narrows 'for every input' (looked for: loops, veiled, ifaces, maps, wideKeys, modest, calm, conditions, laid).
  DERIVED. THE GIVEN ROWS OF THIS SEAT. 3 by the template 'for every input the law returns true; each argument reads behind the call as it read before'; 0 by the template 'total and deterministic' (their statements: Qxb6602373aTotals.lean).
  GIVEN WITH THE SEED: the statements are not yours to turn. If you find one false, say at which input.
  Laid BY PROGRAM, IN A SANDBOX (cutbox-rows.mjs): the forced cells as the released guide's own fill.sh prints them over the translation cd8d233b9b11ee20… (all of the seat's roots in one cut). By AI agents, Wed Nov 11 2026. No macro, syntax, notation, axiom, sorry.
-/
import Derived.Test.Qxb6602373aChecked
import GoSem.Claim
import GoSem.ClaimJoined
import GoSem.ClaimMapViews
import Derived.JoinedTies
import Derived.KernelRfl
namespace Go.Proofs.Qxb6602373a
/- THE CELL 'sum', in the pinned program and in every row, IS THE sha256 OF THE DUMP (.gsa) THAT Qxb6602373aProg.lean LOADS. Nothing in Lean hashes anything: it is a label: what it is worth is what the hold of that sum in a sandbox is worth. -/
noncomputable def Try.pinned : Pinned := { name := "qxb6602373a", sum := "cd8d233b9b11ee20f4e009a93f1e65d8e4675ae19ecac788ada3e5e7744bc955", checked := Try.checked }
namespace Rows
def none {H : Type} : Left H := { results := [], args := [] }

/-- 'zzlaws_pkg_amount_b1.FnCmpMatchesSubtractionSign': WHATEVER THE INPUT: true; the input reads as it did. -/
def fnCmpMatchesSubtractionSignSpec : ChangeSpec := { name := "fnCmpMatchesSubtractionSign", fn := fun _ => fun
  | [d1, d2, d3, d4] => { results := [.lit (.bool true)], args := [d1, d2, d3, d4] }
  | _ => none }
def fnCmpMatchesSubtractionSignRow : OpenClaim := { program := "qxb6602373a", sum := "cd8d233b9b11ee20f4e009a93f1e65d8e4675ae19ecac788ada3e5e7744bc955", func := "example.com/holdfast/holdfast/zzlaws_pkg_amount_b1.FnCmpMatchesSubtractionSign", spec := "fnCmpMatchesSubtractionSign", apart := false }
def FnCmpMatchesSubtractionSignSaid : Prop := fnCmpMatchesSubtractionSignRow.holds Try.pinned (OpenSpec.ofChange fnCmpMatchesSubtractionSignSpec)

/-- ITS FALSE NEIGHBOUR: 'it returns false'. Refute it at one input. -/
def fnCmpMatchesSubtractionSignWrong : ChangeSpec := { name := "fnCmpMatchesSubtractionSign", fn := fun _ => fun
  | [d1, d2, d3, d4] => { results := [.lit (.bool false)], args := [d1, d2, d3, d4] }
  | _ => none }
def FnCmpMatchesSubtractionSignWrongFalsely : Prop := fnCmpMatchesSubtractionSignRow.holds Try.pinned (OpenSpec.ofChange fnCmpMatchesSubtractionSignWrong)

/-- 'zzlaws_pkg_amount_b1.FnCmpAntisymmetricReflexive': WHATEVER THE INPUT: true; the input reads as it did. -/
def fnCmpAntisymmetricReflexiveSpec : ChangeSpec := { name := "fnCmpAntisymmetricReflexive", fn := fun _ => fun
  | [d1, d2, d3, d4] => { results := [.lit (.bool true)], args := [d1, d2, d3, d4] }
  | _ => none }
def fnCmpAntisymmetricReflexiveRow : OpenClaim := { program := "qxb6602373a", sum := "cd8d233b9b11ee20f4e009a93f1e65d8e4675ae19ecac788ada3e5e7744bc955", func := "example.com/holdfast/holdfast/zzlaws_pkg_amount_b1.FnCmpAntisymmetricReflexive", spec := "fnCmpAntisymmetricReflexive", apart := false }
def FnCmpAntisymmetricReflexiveSaid : Prop := fnCmpAntisymmetricReflexiveRow.holds Try.pinned (OpenSpec.ofChange fnCmpAntisymmetricReflexiveSpec)

/-- ITS FALSE NEIGHBOUR: 'it returns false'. Refute it at one input. -/
def fnCmpAntisymmetricReflexiveWrong : ChangeSpec := { name := "fnCmpAntisymmetricReflexive", fn := fun _ => fun
  | [d1, d2, d3, d4] => { results := [.lit (.bool false)], args := [d1, d2, d3, d4] }
  | _ => none }
def FnCmpAntisymmetricReflexiveWrongFalsely : Prop := fnCmpAntisymmetricReflexiveRow.holds Try.pinned (OpenSpec.ofChange fnCmpAntisymmetricReflexiveWrong)

/-- 'zzlaws_pkg_amount_b1.FnCmpTransitive': WHATEVER THE INPUT: true; the input reads as it did. -/
def fnCmpTransitiveSpec : ChangeSpec := { name := "fnCmpTransitive", fn := fun _ => fun
  | [d1, d2, d3, d4, d5, d6] => { results := [.lit (.bool true)], args := [d1, d2, d3, d4, d5, d6] }
  | _ => none }
def fnCmpTransitiveRow : OpenClaim := { program := "qxb6602373a", sum := "cd8d233b9b11ee20f4e009a93f1e65d8e4675ae19ecac788ada3e5e7744bc955", func := "example.com/holdfast/holdfast/zzlaws_pkg_amount_b1.FnCmpTransitive", spec := "fnCmpTransitive", apart := false }
def FnCmpTransitiveSaid : Prop := fnCmpTransitiveRow.holds Try.pinned (OpenSpec.ofChange fnCmpTransitiveSpec)

/-- ITS FALSE NEIGHBOUR: 'it returns false'. Refute it at one input. -/
def fnCmpTransitiveWrong : ChangeSpec := { name := "fnCmpTransitive", fn := fun _ => fun
  | [d1, d2, d3, d4, d5, d6] => { results := [.lit (.bool false)], args := [d1, d2, d3, d4, d5, d6] }
  | _ => none }
def FnCmpTransitiveWrongFalsely : Prop := fnCmpTransitiveRow.holds Try.pinned (OpenSpec.ofChange fnCmpTransitiveWrong)

end Rows
end Go.Proofs.Qxb6602373a
