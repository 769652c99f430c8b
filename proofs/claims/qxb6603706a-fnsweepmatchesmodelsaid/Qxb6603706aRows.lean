/-
  No cell of these rows narrows 'for every input' (looked for: loops, veiled, ifaces, maps, wideKeys, modest, calm, conditions, laid).
  DERIVED. THE GIVEN ROWS OF THIS SEAT. 4 by the template 'for every input the law returns true; each argument reads behind the call as it read before'; 0 by the template 'total and deterministic' (their statements: Qxb6603706aTotals.lean).
  GIVEN WITH THE SEED: the statements are not yours to turn. If you find one false, say at which input.
  Laid BY PROGRAM, IN A SANDBOX (cutbox-rows.mjs): the forced cells as the released guide's own fill.sh prints them over the translation 279d346e6ea12d04… (all of the seat's roots in one cut). By AI agents, Wed Nov 11 2026. No macro, syntax, notation, axiom, sorry.
-/
import Derived.Test.Qxb6603706aChecked
import GoSem.Claim
import GoSem.ClaimJoined
import GoSem.ClaimMapViews
import Derived.JoinedTies
import Derived.KernelRfl
namespace Go.Proofs.Qxb6603706a
/- THE CELL 'sum', in the pinned program and in every row, IS THE sha256 OF THE DUMP (.gsa) THAT Qxb6603706aProg.lean LOADS. Nothing in Lean hashes anything: it is a label: what it is worth is what the hold of that sum in a sandbox is worth. -/
noncomputable def Try.pinned : Pinned := { name := "qxb6603706a", sum := "279d346e6ea12d04ad6a203461541b024909ddb0f3358e21fb20a4c5f7c7dd5c", checked := Try.checked }
namespace Rows
def none {H : Type} : Left H := { results := [], args := [] }

/-- 'zzlaws_root_b1.FnTakeClockMonotone': WHATEVER THE INPUT: true; the input reads as it did. -/
def fnTakeClockMonotoneSpec : ChangeSpec := { name := "fnTakeClockMonotone", fn := fun _ => fun
  | [d1, d2, d3, d4, d5, d6] => { results := [.lit (.bool true)], args := [d1, d2, d3, d4, d5, d6] }
  | _ => none }
def fnTakeClockMonotoneRow : OpenClaim := { program := "qxb6603706a", sum := "279d346e6ea12d04ad6a203461541b024909ddb0f3358e21fb20a4c5f7c7dd5c", func := "example.com/sluicegate/sluicegate/zzlaws_root_b1.FnTakeClockMonotone", spec := "fnTakeClockMonotone", apart := false }
def FnTakeClockMonotoneSaid : Prop := fnTakeClockMonotoneRow.holds Try.pinned (OpenSpec.ofChange fnTakeClockMonotoneSpec)

/-- ITS FALSE NEIGHBOUR: 'it returns false'. Refute it at one input. -/
def fnTakeClockMonotoneWrong : ChangeSpec := { name := "fnTakeClockMonotone", fn := fun _ => fun
  | [d1, d2, d3, d4, d5, d6] => { results := [.lit (.bool false)], args := [d1, d2, d3, d4, d5, d6] }
  | _ => none }
def FnTakeClockMonotoneWrongFalsely : Prop := fnTakeClockMonotoneRow.holds Try.pinned (OpenSpec.ofChange fnTakeClockMonotoneWrong)

/-- 'zzlaws_root_b1.FnTakeWaitIsExact': WHATEVER THE INPUT: true; the input reads as it did. -/
def fnTakeWaitIsExactSpec : ChangeSpec := { name := "fnTakeWaitIsExact", fn := fun _ => fun
  | [d1, d2, d3, d4, d5] => { results := [.lit (.bool true)], args := [d1, d2, d3, d4, d5] }
  | _ => none }
def fnTakeWaitIsExactRow : OpenClaim := { program := "qxb6603706a", sum := "279d346e6ea12d04ad6a203461541b024909ddb0f3358e21fb20a4c5f7c7dd5c", func := "example.com/sluicegate/sluicegate/zzlaws_root_b1.FnTakeWaitIsExact", spec := "fnTakeWaitIsExact", apart := false }
def FnTakeWaitIsExactSaid : Prop := fnTakeWaitIsExactRow.holds Try.pinned (OpenSpec.ofChange fnTakeWaitIsExactSpec)

/-- ITS FALSE NEIGHBOUR: 'it returns false'. Refute it at one input. -/
def fnTakeWaitIsExactWrong : ChangeSpec := { name := "fnTakeWaitIsExact", fn := fun _ => fun
  | [d1, d2, d3, d4, d5] => { results := [.lit (.bool false)], args := [d1, d2, d3, d4, d5] }
  | _ => none }
def FnTakeWaitIsExactWrongFalsely : Prop := fnTakeWaitIsExactRow.holds Try.pinned (OpenSpec.ofChange fnTakeWaitIsExactWrong)

/-- 'zzlaws_root_b1.FnTakeBurstFromFull': WHATEVER THE INPUT: true; the input reads as it did. -/
def fnTakeBurstFromFullSpec : ChangeSpec := { name := "fnTakeBurstFromFull", fn := fun _ => fun
  | [d1, d2, d3, d4, d5] => { results := [.lit (.bool true)], args := [d1, d2, d3, d4, d5] }
  | _ => none }
def fnTakeBurstFromFullRow : OpenClaim := { program := "qxb6603706a", sum := "279d346e6ea12d04ad6a203461541b024909ddb0f3358e21fb20a4c5f7c7dd5c", func := "example.com/sluicegate/sluicegate/zzlaws_root_b1.FnTakeBurstFromFull", spec := "fnTakeBurstFromFull", apart := false }
def FnTakeBurstFromFullSaid : Prop := fnTakeBurstFromFullRow.holds Try.pinned (OpenSpec.ofChange fnTakeBurstFromFullSpec)

/-- ITS FALSE NEIGHBOUR: 'it returns false'. Refute it at one input. -/
def fnTakeBurstFromFullWrong : ChangeSpec := { name := "fnTakeBurstFromFull", fn := fun _ => fun
  | [d1, d2, d3, d4, d5] => { results := [.lit (.bool false)], args := [d1, d2, d3, d4, d5] }
  | _ => none }
def FnTakeBurstFromFullWrongFalsely : Prop := fnTakeBurstFromFullRow.holds Try.pinned (OpenSpec.ofChange fnTakeBurstFromFullWrong)

/-- 'zzlaws_root_b1.FnSweepMatchesModel': WHATEVER THE INPUT: true; the input reads as it did. -/
def fnSweepMatchesModelSpec : ChangeSpec := { name := "fnSweepMatchesModel", fn := fun _ => fun
  | [d1, d2, d3, d4, d5, d6] => { results := [.lit (.bool true)], args := [d1, d2, d3, d4, d5, d6] }
  | _ => none }
def fnSweepMatchesModelRow : OpenClaim := { program := "qxb6603706a", sum := "279d346e6ea12d04ad6a203461541b024909ddb0f3358e21fb20a4c5f7c7dd5c", func := "example.com/sluicegate/sluicegate/zzlaws_root_b1.FnSweepMatchesModel", spec := "fnSweepMatchesModel", apart := false }
def FnSweepMatchesModelSaid : Prop := fnSweepMatchesModelRow.holds Try.pinned (OpenSpec.ofChange fnSweepMatchesModelSpec)

/-- ITS FALSE NEIGHBOUR: 'it returns false'. Refute it at one input. -/
def fnSweepMatchesModelWrong : ChangeSpec := { name := "fnSweepMatchesModel", fn := fun _ => fun
  | [d1, d2, d3, d4, d5, d6] => { results := [.lit (.bool false)], args := [d1, d2, d3, d4, d5, d6] }
  | _ => none }
def FnSweepMatchesModelWrongFalsely : Prop := fnSweepMatchesModelRow.holds Try.pinned (OpenSpec.ofChange fnSweepMatchesModelWrong)

end Rows
end Go.Proofs.Qxb6603706a
