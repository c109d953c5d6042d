/-
  No cell of these rows narrows 'for every input' (looked for: loops, veiled, ifaces, maps, wideKeys, modest, calm, conditions, laid).
  DERIVED. THE GIVEN ROWS OF THIS SEAT. 7 by the template 'for every input the law returns true; each argument reads behind the call as it read before'; 0 by the template 'total and deterministic' (their statements: Qxb6600492aTotals.lean).
  GIVEN WITH THE SEED: the statements are not yours to turn. If you find one false, say at which input.
  Laid BY PROGRAM, IN A SANDBOX (cutbox-rows.mjs): the forced cells as the released guide's own fill.sh prints them over the translation 99e253c4c68ccb8f… (all of the seat's roots in one cut). By AI agents, Wed Nov 11 2026. No macro, syntax, notation, axiom, sorry.
-/
import Derived.Test.Qxb6600492aChecked
import GoSem.Claim
import GoSem.ClaimJoined
import GoSem.ClaimMapViews
import Derived.JoinedTies
import Derived.KernelRfl
namespace Go.Proofs.Qxb6600492a
/- THE CELL 'sum', in the pinned program and in every row, IS THE sha256 OF THE DUMP (.gsa) THAT Qxb6600492aProg.lean LOADS. Nothing in Lean hashes anything: it is a label: what it is worth is what the hold of that sum in a sandbox is worth. -/
noncomputable def Try.pinned : Pinned := { name := "qxb6600492a", sum := "99e253c4c68ccb8f4a619c615c0f0c62a9de39275284759399e0b8f9c4ccf334", checked := Try.checked }
namespace Rows
def none {H : Type} : Left H := { results := [], args := [] }

/-- 'zzlaws_billing_b1.FnNumberExact': WHATEVER THE INPUT: true; the input reads as it did. -/
def fnNumberExactSpec : ChangeSpec := { name := "fnNumberExact", fn := fun _ => fun
  | [d1, d2, d3, d4, d5] => { results := [.lit (.bool true)], args := [d1, d2, d3, d4, d5] }
  | _ => none }
def fnNumberExactRow : OpenClaim := { program := "qxb6600492a", sum := "99e253c4c68ccb8f4a619c615c0f0c62a9de39275284759399e0b8f9c4ccf334", func := "example.com/billwright/billwright/zzlaws_billing_b1.FnNumberExact", spec := "fnNumberExact", apart := false }
def FnNumberExactSaid : Prop := fnNumberExactRow.holds Try.pinned (OpenSpec.ofChange fnNumberExactSpec)

/-- ITS FALSE NEIGHBOUR: 'it returns false'. Refute it at one input. -/
def fnNumberExactWrong : ChangeSpec := { name := "fnNumberExact", fn := fun _ => fun
  | [d1, d2, d3, d4, d5] => { results := [.lit (.bool false)], args := [d1, d2, d3, d4, d5] }
  | _ => none }
def FnNumberExactWrongFalsely : Prop := fnNumberExactRow.holds Try.pinned (OpenSpec.ofChange fnNumberExactWrong)

/-- 'zzlaws_billing_b1.FnNumberReadsPaddedDecimal': WHATEVER THE INPUT: true; the input reads as it did. -/
def fnNumberReadsPaddedDecimalSpec : ChangeSpec := { name := "fnNumberReadsPaddedDecimal", fn := fun _ => fun
  | [d1, d2, d3, d4, d5] => { results := [.lit (.bool true)], args := [d1, d2, d3, d4, d5] }
  | _ => none }
def fnNumberReadsPaddedDecimalRow : OpenClaim := { program := "qxb6600492a", sum := "99e253c4c68ccb8f4a619c615c0f0c62a9de39275284759399e0b8f9c4ccf334", func := "example.com/billwright/billwright/zzlaws_billing_b1.FnNumberReadsPaddedDecimal", spec := "fnNumberReadsPaddedDecimal", apart := false }
def FnNumberReadsPaddedDecimalSaid : Prop := fnNumberReadsPaddedDecimalRow.holds Try.pinned (OpenSpec.ofChange fnNumberReadsPaddedDecimalSpec)

/-- ITS FALSE NEIGHBOUR: 'it returns false'. Refute it at one input. -/
def fnNumberReadsPaddedDecimalWrong : ChangeSpec := { name := "fnNumberReadsPaddedDecimal", fn := fun _ => fun
  | [d1, d2, d3, d4, d5] => { results := [.lit (.bool false)], args := [d1, d2, d3, d4, d5] }
  | _ => none }
def FnNumberReadsPaddedDecimalWrongFalsely : Prop := fnNumberReadsPaddedDecimalRow.holds Try.pinned (OpenSpec.ofChange fnNumberReadsPaddedDecimalWrong)

/-- 'zzlaws_billing_b1.FnOneOfDependsOnSetAsASet': WHATEVER THE INPUT: true; the input reads as it did. -/
def fnOneOfDependsOnSetAsASetSpec : ChangeSpec := { name := "fnOneOfDependsOnSetAsASet", fn := fun _ => fun
  | [d1, d2, d3] => { results := [.lit (.bool true)], args := [d1, d2, d3] }
  | _ => none }
def fnOneOfDependsOnSetAsASetRow : OpenClaim := { program := "qxb6600492a", sum := "99e253c4c68ccb8f4a619c615c0f0c62a9de39275284759399e0b8f9c4ccf334", func := "example.com/billwright/billwright/zzlaws_billing_b1.FnOneOfDependsOnSetAsASet", spec := "fnOneOfDependsOnSetAsASet", inPlace := ["internal/bytealg.IndexByteString"], apart := false }
def FnOneOfDependsOnSetAsASetSaid : Prop := fnOneOfDependsOnSetAsASetRow.holds Try.pinned (OpenSpec.ofChange fnOneOfDependsOnSetAsASetSpec)

/-- ITS FALSE NEIGHBOUR: 'it returns false'. Refute it at one input. -/
def fnOneOfDependsOnSetAsASetWrong : ChangeSpec := { name := "fnOneOfDependsOnSetAsASet", fn := fun _ => fun
  | [d1, d2, d3] => { results := [.lit (.bool false)], args := [d1, d2, d3] }
  | _ => none }
def FnOneOfDependsOnSetAsASetWrongFalsely : Prop := fnOneOfDependsOnSetAsASetRow.holds Try.pinned (OpenSpec.ofChange fnOneOfDependsOnSetAsASetWrong)

/-- 'zzlaws_billing_b1.FnFractionIsZeroExact': WHATEVER THE INPUT: true; the input reads as it did. -/
def fnFractionIsZeroExactSpec : ChangeSpec := { name := "fnFractionIsZeroExact", fn := fun _ => fun
  | [d1, d2] => { results := [.lit (.bool true)], args := [d1, d2] }
  | _ => none }
def fnFractionIsZeroExactRow : OpenClaim := { program := "qxb6600492a", sum := "99e253c4c68ccb8f4a619c615c0f0c62a9de39275284759399e0b8f9c4ccf334", func := "example.com/billwright/billwright/zzlaws_billing_b1.FnFractionIsZeroExact", spec := "fnFractionIsZeroExact", apart := false }
def FnFractionIsZeroExactSaid : Prop := fnFractionIsZeroExactRow.holds Try.pinned (OpenSpec.ofChange fnFractionIsZeroExactSpec)

/-- ITS FALSE NEIGHBOUR: 'it returns false'. Refute it at one input. -/
def fnFractionIsZeroExactWrong : ChangeSpec := { name := "fnFractionIsZeroExact", fn := fun _ => fun
  | [d1, d2] => { results := [.lit (.bool false)], args := [d1, d2] }
  | _ => none }
def FnFractionIsZeroExactWrongFalsely : Prop := fnFractionIsZeroExactRow.holds Try.pinned (OpenSpec.ofChange fnFractionIsZeroExactWrong)

/-- 'zzlaws_billing_b1.FnFractionIsZeroAgreesWithNumber': WHATEVER THE INPUT: true; the input reads as it did. -/
def fnFractionIsZeroAgreesWithNumberSpec : ChangeSpec := { name := "fnFractionIsZeroAgreesWithNumber", fn := fun _ => fun
  | [d1, d2] => { results := [.lit (.bool true)], args := [d1, d2] }
  | _ => none }
def fnFractionIsZeroAgreesWithNumberRow : OpenClaim := { program := "qxb6600492a", sum := "99e253c4c68ccb8f4a619c615c0f0c62a9de39275284759399e0b8f9c4ccf334", func := "example.com/billwright/billwright/zzlaws_billing_b1.FnFractionIsZeroAgreesWithNumber", spec := "fnFractionIsZeroAgreesWithNumber", apart := false }
def FnFractionIsZeroAgreesWithNumberSaid : Prop := fnFractionIsZeroAgreesWithNumberRow.holds Try.pinned (OpenSpec.ofChange fnFractionIsZeroAgreesWithNumberSpec)

/-- ITS FALSE NEIGHBOUR: 'it returns false'. Refute it at one input. -/
def fnFractionIsZeroAgreesWithNumberWrong : ChangeSpec := { name := "fnFractionIsZeroAgreesWithNumber", fn := fun _ => fun
  | [d1, d2] => { results := [.lit (.bool false)], args := [d1, d2] }
  | _ => none }
def FnFractionIsZeroAgreesWithNumberWrongFalsely : Prop := fnFractionIsZeroAgreesWithNumberRow.holds Try.pinned (OpenSpec.ofChange fnFractionIsZeroAgreesWithNumberWrong)

/-- 'zzlaws_billing_b1.FnFractionTrailingZerosChangeNothing': WHATEVER THE INPUT: true; the input reads as it did. -/
def fnFractionTrailingZerosChangeNothingSpec : ChangeSpec := { name := "fnFractionTrailingZerosChangeNothing", fn := fun _ => fun
  | [d1, d2, d3] => { results := [.lit (.bool true)], args := [d1, d2, d3] }
  | _ => none }
def fnFractionTrailingZerosChangeNothingRow : OpenClaim := { program := "qxb6600492a", sum := "99e253c4c68ccb8f4a619c615c0f0c62a9de39275284759399e0b8f9c4ccf334", func := "example.com/billwright/billwright/zzlaws_billing_b1.FnFractionTrailingZerosChangeNothing", spec := "fnFractionTrailingZerosChangeNothing", apart := false }
def FnFractionTrailingZerosChangeNothingSaid : Prop := fnFractionTrailingZerosChangeNothingRow.holds Try.pinned (OpenSpec.ofChange fnFractionTrailingZerosChangeNothingSpec)

/-- ITS FALSE NEIGHBOUR: 'it returns false'. Refute it at one input. -/
def fnFractionTrailingZerosChangeNothingWrong : ChangeSpec := { name := "fnFractionTrailingZerosChangeNothing", fn := fun _ => fun
  | [d1, d2, d3] => { results := [.lit (.bool false)], args := [d1, d2, d3] }
  | _ => none }
def FnFractionTrailingZerosChangeNothingWrongFalsely : Prop := fnFractionTrailingZerosChangeNothingRow.holds Try.pinned (OpenSpec.ofChange fnFractionTrailingZerosChangeNothingWrong)

/-- 'zzlaws_billing_b1.FnInstantTextScriptKeepsItsWord': WHATEVER THE INPUT: true; the input reads as it did. -/
def fnInstantTextScriptKeepsItsWordSpec : ChangeSpec := { name := "fnInstantTextScriptKeepsItsWord", fn := fun _ => fun
  | [d1, d2, d3, d4, d5, d6, d7] => { results := [.lit (.bool true)], args := [d1, d2, d3, d4, d5, d6, d7] }
  | _ => none }
def fnInstantTextScriptKeepsItsWordRow : OpenClaim := { program := "qxb6600492a", sum := "99e253c4c68ccb8f4a619c615c0f0c62a9de39275284759399e0b8f9c4ccf334", func := "example.com/billwright/billwright/zzlaws_billing_b1.FnInstantTextScriptKeepsItsWord", spec := "fnInstantTextScriptKeepsItsWord", inPlace := ["internal/bytealg.IndexByteString"], apart := false }
def FnInstantTextScriptKeepsItsWordSaid : Prop := fnInstantTextScriptKeepsItsWordRow.holds Try.pinned (OpenSpec.ofChange fnInstantTextScriptKeepsItsWordSpec)

/-- ITS FALSE NEIGHBOUR: 'it returns false'. Refute it at one input. -/
def fnInstantTextScriptKeepsItsWordWrong : ChangeSpec := { name := "fnInstantTextScriptKeepsItsWord", fn := fun _ => fun
  | [d1, d2, d3, d4, d5, d6, d7] => { results := [.lit (.bool false)], args := [d1, d2, d3, d4, d5, d6, d7] }
  | _ => none }
def FnInstantTextScriptKeepsItsWordWrongFalsely : Prop := fnInstantTextScriptKeepsItsWordRow.holds Try.pinned (OpenSpec.ofChange fnInstantTextScriptKeepsItsWordWrong)

end Rows
end Go.Proofs.Qxb6600492a
