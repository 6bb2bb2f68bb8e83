/-
  No cell of these rows narrows 'for every input' (looked for: loops, veiled, ifaces, maps, wideKeys, modest, calm, conditions, laid).
  DERIVED. THE GIVEN ROWS OF THIS SEAT. 4 by the template 'for every input the law returns true; each argument reads behind the call as it read before'; 0 by the template 'total and deterministic' (their statements: Qxb6601559aTotals.lean).
  GIVEN WITH THE SEED: the statements are not yours to turn. If you find one false, say at which input.
  Laid BY PROGRAM, IN A SANDBOX (cutbox-rows.mjs): the forced cells as the released guide's own fill.sh prints them over the translation 52741a5022784cf7… (all of the seat's roots in one cut). By AI agents, Wed Nov 11 2026. No macro, syntax, notation, axiom, sorry.
-/
import Derived.Test.Qxb6601559aChecked
import GoSem.Claim
import GoSem.ClaimJoined
import GoSem.ClaimMapViews
import Derived.JoinedTies
import Derived.KernelRfl
namespace Go.Proofs.Qxb6601559a
/- THE CELL 'sum', in the pinned program and in every row, IS THE sha256 OF THE DUMP (.gsa) THAT Qxb6601559aProg.lean LOADS. Nothing in Lean hashes anything: it is a label: what it is worth is what the hold of that sum in a sandbox is worth. -/
noncomputable def Try.pinned : Pinned := { name := "qxb6601559a", sum := "52741a5022784cf7cb31d0bfb7b90da715c631f3fe2d16f673b8e5003413f195", checked := Try.checked }
namespace Rows
def none {H : Type} : Left H := { results := [], args := [] }

/-- 'zzlaws_internal_toml_b1.FnNumberMatchesPlaceValueSum': WHATEVER THE INPUT: true; the input reads as it did. -/
def fnNumberMatchesPlaceValueSumSpec : ChangeSpec := { name := "fnNumberMatchesPlaceValueSum", fn := fun _ => fun
  | [d] => { results := [.lit (.bool true)], args := [d] }
  | _ => none }
def fnNumberMatchesPlaceValueSumRow : OpenClaim := { program := "qxb6601559a", sum := "52741a5022784cf7cb31d0bfb7b90da715c631f3fe2d16f673b8e5003413f195", func := "example.com/tributary/tributary/zzlaws_internal_toml_b1.FnNumberMatchesPlaceValueSum", spec := "fnNumberMatchesPlaceValueSum", apart := false }
def FnNumberMatchesPlaceValueSumSaid : Prop := fnNumberMatchesPlaceValueSumRow.holds Try.pinned (OpenSpec.ofChange fnNumberMatchesPlaceValueSumSpec)

/-- ITS FALSE NEIGHBOUR: 'it returns false'. Refute it at one input. -/
def fnNumberMatchesPlaceValueSumWrong : ChangeSpec := { name := "fnNumberMatchesPlaceValueSum", fn := fun _ => fun
  | [d] => { results := [.lit (.bool false)], args := [d] }
  | _ => none }
def FnNumberMatchesPlaceValueSumWrongFalsely : Prop := fnNumberMatchesPlaceValueSumRow.holds Try.pinned (OpenSpec.ofChange fnNumberMatchesPlaceValueSumWrong)

/-- 'zzlaws_internal_toml_b1.FnNumberReadsEveryNonnegativeDecimal': WHATEVER THE INPUT: true; the input reads as it did. -/
def fnNumberReadsEveryNonnegativeDecimalSpec : ChangeSpec := { name := "fnNumberReadsEveryNonnegativeDecimal", fn := fun _ => fun
  | [d1, d2] => { results := [.lit (.bool true)], args := [d1, d2] }
  | _ => none }
def fnNumberReadsEveryNonnegativeDecimalRow : OpenClaim := { program := "qxb6601559a", sum := "52741a5022784cf7cb31d0bfb7b90da715c631f3fe2d16f673b8e5003413f195", func := "example.com/tributary/tributary/zzlaws_internal_toml_b1.FnNumberReadsEveryNonnegativeDecimal", spec := "fnNumberReadsEveryNonnegativeDecimal", apart := false }
def FnNumberReadsEveryNonnegativeDecimalSaid : Prop := fnNumberReadsEveryNonnegativeDecimalRow.holds Try.pinned (OpenSpec.ofChange fnNumberReadsEveryNonnegativeDecimalSpec)

/-- ITS FALSE NEIGHBOUR: 'it returns false'. Refute it at one input. -/
def fnNumberReadsEveryNonnegativeDecimalWrong : ChangeSpec := { name := "fnNumberReadsEveryNonnegativeDecimal", fn := fun _ => fun
  | [d1, d2] => { results := [.lit (.bool false)], args := [d1, d2] }
  | _ => none }
def FnNumberReadsEveryNonnegativeDecimalWrongFalsely : Prop := fnNumberReadsEveryNonnegativeDecimalRow.holds Try.pinned (OpenSpec.ofChange fnNumberReadsEveryNonnegativeDecimalWrong)

/-- 'zzlaws_internal_toml_b1.FnNumberOfConcatenation': WHATEVER THE INPUT: true; the input reads as it did. -/
def fnNumberOfConcatenationSpec : ChangeSpec := { name := "fnNumberOfConcatenation", fn := fun _ => fun
  | [d1, d2] => { results := [.lit (.bool true)], args := [d1, d2] }
  | _ => none }
def fnNumberOfConcatenationRow : OpenClaim := { program := "qxb6601559a", sum := "52741a5022784cf7cb31d0bfb7b90da715c631f3fe2d16f673b8e5003413f195", func := "example.com/tributary/tributary/zzlaws_internal_toml_b1.FnNumberOfConcatenation", spec := "fnNumberOfConcatenation", apart := false }
def FnNumberOfConcatenationSaid : Prop := fnNumberOfConcatenationRow.holds Try.pinned (OpenSpec.ofChange fnNumberOfConcatenationSpec)

/-- ITS FALSE NEIGHBOUR: 'it returns false'. Refute it at one input. -/
def fnNumberOfConcatenationWrong : ChangeSpec := { name := "fnNumberOfConcatenation", fn := fun _ => fun
  | [d1, d2] => { results := [.lit (.bool false)], args := [d1, d2] }
  | _ => none }
def FnNumberOfConcatenationWrongFalsely : Prop := fnNumberOfConcatenationRow.holds Try.pinned (OpenSpec.ofChange fnNumberOfConcatenationWrong)

/-- 'zzlaws_internal_toml_b1.FnAllDigitsOfConcatenation': WHATEVER THE INPUT: true; the input reads as it did. -/
def fnAllDigitsOfConcatenationSpec : ChangeSpec := { name := "fnAllDigitsOfConcatenation", fn := fun _ => fun
  | [d1, d2] => { results := [.lit (.bool true)], args := [d1, d2] }
  | _ => none }
def fnAllDigitsOfConcatenationRow : OpenClaim := { program := "qxb6601559a", sum := "52741a5022784cf7cb31d0bfb7b90da715c631f3fe2d16f673b8e5003413f195", func := "example.com/tributary/tributary/zzlaws_internal_toml_b1.FnAllDigitsOfConcatenation", spec := "fnAllDigitsOfConcatenation", apart := false }
def FnAllDigitsOfConcatenationSaid : Prop := fnAllDigitsOfConcatenationRow.holds Try.pinned (OpenSpec.ofChange fnAllDigitsOfConcatenationSpec)

/-- ITS FALSE NEIGHBOUR: 'it returns false'. Refute it at one input. -/
def fnAllDigitsOfConcatenationWrong : ChangeSpec := { name := "fnAllDigitsOfConcatenation", fn := fun _ => fun
  | [d1, d2] => { results := [.lit (.bool false)], args := [d1, d2] }
  | _ => none }
def FnAllDigitsOfConcatenationWrongFalsely : Prop := fnAllDigitsOfConcatenationRow.holds Try.pinned (OpenSpec.ofChange fnAllDigitsOfConcatenationWrong)

end Rows
end Go.Proofs.Qxb6601559a
