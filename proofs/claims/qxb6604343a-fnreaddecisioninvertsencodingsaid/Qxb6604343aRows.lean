/-
  No cell of these rows narrows 'for every input' (looked for: loops, veiled, ifaces, maps, wideKeys, modest, calm, conditions, laid).
  DERIVED. THE GIVEN ROWS OF THIS SEAT. 4 by the template 'for every input the law returns true; each argument reads behind the call as it read before'; 0 by the template 'total and deterministic' (their statements: Qxb6604343aTotals.lean).
  GIVEN WITH THE SEED: the statements are not yours to turn. If you find one false, say at which input.
  Laid BY PROGRAM, IN A SANDBOX (cutbox-rows.mjs): the forced cells as the released guide's own fill.sh prints them over the translation f37b7323cb1c7bc0… (all of the seat's roots in one cut). By AI agents, Wed Nov 11 2026. No macro, syntax, notation, axiom, sorry.
-/
import Derived.Test.Qxb6604343aChecked
import GoSem.Claim
import GoSem.ClaimJoined
import GoSem.ClaimMapViews
import Derived.JoinedTies
import Derived.KernelRfl
namespace Go.Proofs.Qxb6604343a
/- THE CELL 'sum', in the pinned program and in every row, IS THE sha256 OF THE DUMP (.gsa) THAT Qxb6604343aProg.lean LOADS. Nothing in Lean hashes anything: it is a label: what it is worth is what the hold of that sum in a sandbox is worth. -/
noncomputable def Try.pinned : Pinned := { name := "qxb6604343a", sum := "f37b7323cb1c7bc0f54957ded77cac64540537fc7ea76788eb4d22918e296f67", checked := Try.checked }
namespace Rows
def none {H : Type} : Left H := { results := [], args := [] }

/-- 'zzlaws_internal_store_b1.FnMultiplyIsCastagnoliFieldProduct': WHATEVER THE INPUT: true; the input reads as it did. -/
def fnMultiplyIsCastagnoliFieldProductSpec : ChangeSpec := { name := "fnMultiplyIsCastagnoliFieldProduct", fn := fun _ => fun
  | [d1, d2] => { results := [.lit (.bool true)], args := [d1, d2] }
  | _ => none }
def fnMultiplyIsCastagnoliFieldProductRow : OpenClaim := { program := "qxb6604343a", sum := "f37b7323cb1c7bc0f54957ded77cac64540537fc7ea76788eb4d22918e296f67", func := "example.com/onceward/onceward/zzlaws_internal_store_b1.FnMultiplyIsCastagnoliFieldProduct", spec := "fnMultiplyIsCastagnoliFieldProduct", apart := false }
def FnMultiplyIsCastagnoliFieldProductSaid : Prop := fnMultiplyIsCastagnoliFieldProductRow.holds Try.pinned (OpenSpec.ofChange fnMultiplyIsCastagnoliFieldProductSpec)

/-- ITS FALSE NEIGHBOUR: 'it returns false'. Refute it at one input. -/
def fnMultiplyIsCastagnoliFieldProductWrong : ChangeSpec := { name := "fnMultiplyIsCastagnoliFieldProduct", fn := fun _ => fun
  | [d1, d2] => { results := [.lit (.bool false)], args := [d1, d2] }
  | _ => none }
def FnMultiplyIsCastagnoliFieldProductWrongFalsely : Prop := fnMultiplyIsCastagnoliFieldProductRow.holds Try.pinned (OpenSpec.ofChange fnMultiplyIsCastagnoliFieldProductWrong)

/-- 'zzlaws_internal_store_b1.FnMultiplyRingLaws': WHATEVER THE INPUT: true; the input reads as it did. -/
def fnMultiplyRingLawsSpec : ChangeSpec := { name := "fnMultiplyRingLaws", fn := fun _ => fun
  | [d1, d2, d3] => { results := [.lit (.bool true)], args := [d1, d2, d3] }
  | _ => none }
def fnMultiplyRingLawsRow : OpenClaim := { program := "qxb6604343a", sum := "f37b7323cb1c7bc0f54957ded77cac64540537fc7ea76788eb4d22918e296f67", func := "example.com/onceward/onceward/zzlaws_internal_store_b1.FnMultiplyRingLaws", spec := "fnMultiplyRingLaws", apart := false }
def FnMultiplyRingLawsSaid : Prop := fnMultiplyRingLawsRow.holds Try.pinned (OpenSpec.ofChange fnMultiplyRingLawsSpec)

/-- ITS FALSE NEIGHBOUR: 'it returns false'. Refute it at one input. -/
def fnMultiplyRingLawsWrong : ChangeSpec := { name := "fnMultiplyRingLaws", fn := fun _ => fun
  | [d1, d2, d3] => { results := [.lit (.bool false)], args := [d1, d2, d3] }
  | _ => none }
def FnMultiplyRingLawsWrongFalsely : Prop := fnMultiplyRingLawsRow.holds Try.pinned (OpenSpec.ofChange fnMultiplyRingLawsWrong)

/-- 'zzlaws_internal_store_b1.FnReadDecisionInvertsEncoding': WHATEVER THE INPUT: true; the input reads as it did. -/
def fnReadDecisionInvertsEncodingSpec : ChangeSpec := { name := "fnReadDecisionInvertsEncoding", fn := fun _ => fun
  | [d1, d2, d3, d4] => { results := [.lit (.bool true)], args := [d1, d2, d3, d4] }
  | _ => none }
def fnReadDecisionInvertsEncodingRow : OpenClaim := { program := "qxb6604343a", sum := "f37b7323cb1c7bc0f54957ded77cac64540537fc7ea76788eb4d22918e296f67", func := "example.com/onceward/onceward/zzlaws_internal_store_b1.FnReadDecisionInvertsEncoding", spec := "fnReadDecisionInvertsEncoding", apart := false }
def FnReadDecisionInvertsEncodingSaid : Prop := fnReadDecisionInvertsEncodingRow.holds Try.pinned (OpenSpec.ofChange fnReadDecisionInvertsEncodingSpec)

/-- ITS FALSE NEIGHBOUR: 'it returns false'. Refute it at one input. -/
def fnReadDecisionInvertsEncodingWrong : ChangeSpec := { name := "fnReadDecisionInvertsEncoding", fn := fun _ => fun
  | [d1, d2, d3, d4] => { results := [.lit (.bool false)], args := [d1, d2, d3, d4] }
  | _ => none }
def FnReadDecisionInvertsEncodingWrongFalsely : Prop := fnReadDecisionInvertsEncodingRow.holds Try.pinned (OpenSpec.ofChange fnReadDecisionInvertsEncodingWrong)

/-- 'zzlaws_internal_store_b1.FnFileScriptLeavesPoolUntouched': WHATEVER THE INPUT: true; the input reads as it did. -/
def fnFileScriptLeavesPoolUntouchedSpec : ChangeSpec := { name := "fnFileScriptLeavesPoolUntouched", fn := fun _ => fun
  | [d1, d2] => { results := [.lit (.bool true)], args := [d1, d2] }
  | _ => none }
def fnFileScriptLeavesPoolUntouchedRow : OpenClaim := { program := "qxb6604343a", sum := "f37b7323cb1c7bc0f54957ded77cac64540537fc7ea76788eb4d22918e296f67", func := "example.com/onceward/onceward/zzlaws_internal_store_b1.FnFileScriptLeavesPoolUntouched", spec := "fnFileScriptLeavesPoolUntouched", apart := false }
def FnFileScriptLeavesPoolUntouchedSaid : Prop := fnFileScriptLeavesPoolUntouchedRow.holds Try.pinned (OpenSpec.ofChange fnFileScriptLeavesPoolUntouchedSpec)

/-- ITS FALSE NEIGHBOUR: 'it returns false'. Refute it at one input. -/
def fnFileScriptLeavesPoolUntouchedWrong : ChangeSpec := { name := "fnFileScriptLeavesPoolUntouched", fn := fun _ => fun
  | [d1, d2] => { results := [.lit (.bool false)], args := [d1, d2] }
  | _ => none }
def FnFileScriptLeavesPoolUntouchedWrongFalsely : Prop := fnFileScriptLeavesPoolUntouchedRow.holds Try.pinned (OpenSpec.ofChange fnFileScriptLeavesPoolUntouchedWrong)

end Rows
end Go.Proofs.Qxb6604343a
