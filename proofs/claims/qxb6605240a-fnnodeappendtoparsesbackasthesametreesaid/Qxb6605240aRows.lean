/-
  NARROWER THAN 'FOR EVERY INPUT', by the rows' own cells (each row's printed sentence says how): FnNodeAppendToParsesBackAsTheSameTree: loops.
  DERIVED. THE GIVEN ROWS OF THIS SEAT. 3 by the template 'for every input the law returns true; each argument reads behind the call as it read before'; 0 by the template 'total and deterministic' (their statements: Qxb6605240aTotals.lean).
  GIVEN WITH THE SEED: the statements are not yours to turn. If you find one false, say at which input.
  Laid BY PROGRAM, IN A SANDBOX (cutbox-rows.mjs): the forced cells as the released guide's own fill.sh prints them over the translation 913ab351d6f9532d… (all of the seat's roots in one cut). By AI agents, Wed Nov 11 2026. No macro, syntax, notation, axiom, sorry.
-/
import Derived.Test.Qxb6605240aChecked
import GoSem.Claim
import GoSem.ClaimJoined
import GoSem.ClaimMapViews
import Derived.JoinedTies
import Derived.KernelRfl
namespace Go.Proofs.Qxb6605240a
/- THE CELL 'sum', in the pinned program and in every row, IS THE sha256 OF THE DUMP (.gsa) THAT Qxb6605240aProg.lean LOADS. Nothing in Lean hashes anything: it is a label: what it is worth is what the hold of that sum in a sandbox is worth. -/
noncomputable def Try.pinned : Pinned := { name := "qxb6605240a", sum := "913ab351d6f9532da03a56860a2a9d1416ab6ff3be139fe5784b21d9e7efb6a1", checked := Try.checked }
namespace Rows
def none {H : Type} : Left H := { results := [], args := [] }

/-- 'zzlaws_internal_jcs_b1.FnAppendStringDecodesBackAsCanonicalJSONString': WHATEVER THE INPUT: true; the input reads as it did. -/
def fnAppendStringDecodesBackAsCanonicalJSONStringSpec : ChangeSpec := { name := "fnAppendStringDecodesBackAsCanonicalJSONString", fn := fun _ => fun
  | [d1, d2] => { results := [.lit (.bool true)], args := [d1, d2] }
  | _ => none }
def fnAppendStringDecodesBackAsCanonicalJSONStringRow : OpenClaim := { program := "qxb6605240a", sum := "913ab351d6f9532da03a56860a2a9d1416ab6ff3be139fe5784b21d9e7efb6a1", func := "example.com/intent-to-receipt/intent-to-receipt/zzlaws_internal_jcs_b1.FnAppendStringDecodesBackAsCanonicalJSONString", spec := "fnAppendStringDecodesBackAsCanonicalJSONString", apart := false }
def FnAppendStringDecodesBackAsCanonicalJSONStringSaid : Prop := fnAppendStringDecodesBackAsCanonicalJSONStringRow.holds Try.pinned (OpenSpec.ofChange fnAppendStringDecodesBackAsCanonicalJSONStringSpec)

/-- ITS FALSE NEIGHBOUR: 'it returns false'. Refute it at one input. -/
def fnAppendStringDecodesBackAsCanonicalJSONStringWrong : ChangeSpec := { name := "fnAppendStringDecodesBackAsCanonicalJSONString", fn := fun _ => fun
  | [d1, d2] => { results := [.lit (.bool false)], args := [d1, d2] }
  | _ => none }
def FnAppendStringDecodesBackAsCanonicalJSONStringWrongFalsely : Prop := fnAppendStringDecodesBackAsCanonicalJSONStringRow.holds Try.pinned (OpenSpec.ofChange fnAppendStringDecodesBackAsCanonicalJSONStringWrong)

/-- 'zzlaws_internal_jcs_b1.FnAppendStringSplitsAtEveryByte': WHATEVER THE INPUT: true; the input reads as it did. -/
def fnAppendStringSplitsAtEveryByteSpec : ChangeSpec := { name := "fnAppendStringSplitsAtEveryByte", fn := fun _ => fun
  | [d1, d2, d3] => { results := [.lit (.bool true)], args := [d1, d2, d3] }
  | _ => none }
def fnAppendStringSplitsAtEveryByteRow : OpenClaim := { program := "qxb6605240a", sum := "913ab351d6f9532da03a56860a2a9d1416ab6ff3be139fe5784b21d9e7efb6a1", func := "example.com/intent-to-receipt/intent-to-receipt/zzlaws_internal_jcs_b1.FnAppendStringSplitsAtEveryByte", spec := "fnAppendStringSplitsAtEveryByte", apart := false }
def FnAppendStringSplitsAtEveryByteSaid : Prop := fnAppendStringSplitsAtEveryByteRow.holds Try.pinned (OpenSpec.ofChange fnAppendStringSplitsAtEveryByteSpec)

/-- ITS FALSE NEIGHBOUR: 'it returns false'. Refute it at one input. -/
def fnAppendStringSplitsAtEveryByteWrong : ChangeSpec := { name := "fnAppendStringSplitsAtEveryByte", fn := fun _ => fun
  | [d1, d2, d3] => { results := [.lit (.bool false)], args := [d1, d2, d3] }
  | _ => none }
def FnAppendStringSplitsAtEveryByteWrongFalsely : Prop := fnAppendStringSplitsAtEveryByteRow.holds Try.pinned (OpenSpec.ofChange fnAppendStringSplitsAtEveryByteWrong)

/-- 'zzlaws_internal_jcs_b1.FnNodeAppendToParsesBackAsTheSameTree': WHATEVER THE INPUT: true; the input reads as it did. -/
def fnNodeAppendToParsesBackAsTheSameTreeSpec : ChangeSpec := { name := "fnNodeAppendToParsesBackAsTheSameTree", fn := fun _ => fun
  | [d1, d2] => { results := [.lit (.bool true)], args := [d1, d2] }
  | _ => none }
def fnNodeAppendToParsesBackAsTheSameTreeRow : OpenClaim := { program := "qxb6605240a", sum := "913ab351d6f9532da03a56860a2a9d1416ab6ff3be139fe5784b21d9e7efb6a1", func := "example.com/intent-to-receipt/intent-to-receipt/zzlaws_internal_jcs_b1.FnNodeAppendToParsesBackAsTheSameTree", spec := "fnNodeAppendToParsesBackAsTheSameTree", recurses := true, loops := true, apart := false }
def FnNodeAppendToParsesBackAsTheSameTreeSaid : Prop := fnNodeAppendToParsesBackAsTheSameTreeRow.holds Try.pinned (OpenSpec.ofChange fnNodeAppendToParsesBackAsTheSameTreeSpec)

/-- ITS FALSE NEIGHBOUR: 'it returns false'. Refute it at one input. -/
def fnNodeAppendToParsesBackAsTheSameTreeWrong : ChangeSpec := { name := "fnNodeAppendToParsesBackAsTheSameTree", fn := fun _ => fun
  | [d1, d2] => { results := [.lit (.bool false)], args := [d1, d2] }
  | _ => none }
def FnNodeAppendToParsesBackAsTheSameTreeWrongFalsely : Prop := fnNodeAppendToParsesBackAsTheSameTreeRow.holds Try.pinned (OpenSpec.ofChange fnNodeAppendToParsesBackAsTheSameTreeWrong)

end Rows
end Go.Proofs.Qxb6605240a
