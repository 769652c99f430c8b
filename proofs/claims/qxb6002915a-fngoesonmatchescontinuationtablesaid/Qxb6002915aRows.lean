/-
  No cell of these rows narrows 'for every input' (looked for: loops, veiled, ifaces, maps, wideKeys, modest, calm, conditions, laid).
  DERIVED. THE GIVEN ROWS OF THIS SEAT. 3 by the template 'for every input the law returns true; each argument reads behind the call as it read before'; 0 by the template 'total and deterministic' (their statements: Qxb6002915aTotals.lean).
  GIVEN WITH THE SEED: the statements are not yours to turn. If you find one false, say at which input.
  Laid BY PROGRAM, IN A SANDBOX (cutbox-rows.mjs): the forced cells as the released guide's own fill.sh prints them over the translation acc29c202e5cc7bc… (all of the seat's roots in one cut). By AI agents, Wed Nov 11 2026. No macro, syntax, notation, axiom, sorry.
-/
import Derived.Test.Qxb6002915aChecked
import GoSem.Claim
import GoSem.ClaimJoined
import GoSem.ClaimMapViews
import Derived.JoinedTies
import Derived.KernelRfl
namespace Go.Proofs.Qxb6002915a
/- THE CELL 'sum', in the pinned program and in every row, IS THE sha256 OF THE DUMP (.gsa) THAT Qxb6002915aProg.lean LOADS. Nothing in Lean hashes anything: it is a label: what it is worth is what the hold of that sum in a sandbox is worth. -/
noncomputable def Try.pinned : Pinned := { name := "qxb6002915a", sum := "acc29c202e5cc7bcefbb5447f758c76abfd9eab2210361cfc141084966376c8e", checked := Try.checked }
namespace Rows
def none {H : Type} : Left H := { results := [], args := [] }

/-- 'zzlaws_internal_markdown_b1.FnGoesOnMatchesContinuationTable': WHATEVER THE INPUT: true; the input reads as it did. -/
def fnGoesOnMatchesContinuationTableSpec : ChangeSpec := { name := "fnGoesOnMatchesContinuationTable", fn := fun _ => fun
  | [d1, d2, d3, d4, d5, d6, d7, d8, d9, d10, d11, d12] => { results := [.lit (.bool true)], args := [d1, d2, d3, d4, d5, d6, d7, d8, d9, d10, d11, d12] }
  | _ => none }
def fnGoesOnMatchesContinuationTableRow : OpenClaim := { program := "qxb6002915a", sum := "acc29c202e5cc7bcefbb5447f758c76abfd9eab2210361cfc141084966376c8e", func := "example.com/parlorkeep/parlorkeep/zzlaws_internal_markdown_b1.FnGoesOnMatchesContinuationTable", spec := "fnGoesOnMatchesContinuationTable", apart := false }
def FnGoesOnMatchesContinuationTableSaid : Prop := fnGoesOnMatchesContinuationTableRow.holds Try.pinned (OpenSpec.ofChange fnGoesOnMatchesContinuationTableSpec)

/-- ITS FALSE NEIGHBOUR: 'it returns false'. Refute it at one input. -/
def fnGoesOnMatchesContinuationTableWrong : ChangeSpec := { name := "fnGoesOnMatchesContinuationTable", fn := fun _ => fun
  | [d1, d2, d3, d4, d5, d6, d7, d8, d9, d10, d11, d12] => { results := [.lit (.bool false)], args := [d1, d2, d3, d4, d5, d6, d7, d8, d9, d10, d11, d12] }
  | _ => none }
def FnGoesOnMatchesContinuationTableWrongFalsely : Prop := fnGoesOnMatchesContinuationTableRow.holds Try.pinned (OpenSpec.ofChange fnGoesOnMatchesContinuationTableWrong)

/-- 'zzlaws_internal_markdown_b1.FnWholeTagIsTheTagAutomaton': WHATEVER THE INPUT: true; the input reads as it did. -/
def fnWholeTagIsTheTagAutomatonSpec : ChangeSpec := { name := "fnWholeTagIsTheTagAutomaton", fn := fun _ => fun
  | [d] => { results := [.lit (.bool true)], args := [d] }
  | _ => none }
def fnWholeTagIsTheTagAutomatonRow : OpenClaim := { program := "qxb6002915a", sum := "acc29c202e5cc7bcefbb5447f758c76abfd9eab2210361cfc141084966376c8e", func := "example.com/parlorkeep/parlorkeep/zzlaws_internal_markdown_b1.FnWholeTagIsTheTagAutomaton", spec := "fnWholeTagIsTheTagAutomaton", inPlace := ["internal/bytealg.IndexByteString", "internal/bytealg.IndexByte"], apart := false }
def FnWholeTagIsTheTagAutomatonSaid : Prop := fnWholeTagIsTheTagAutomatonRow.holds Try.pinned (OpenSpec.ofChange fnWholeTagIsTheTagAutomatonSpec)

/-- ITS FALSE NEIGHBOUR: 'it returns false'. Refute it at one input. -/
def fnWholeTagIsTheTagAutomatonWrong : ChangeSpec := { name := "fnWholeTagIsTheTagAutomaton", fn := fun _ => fun
  | [d] => { results := [.lit (.bool false)], args := [d] }
  | _ => none }
def FnWholeTagIsTheTagAutomatonWrongFalsely : Prop := fnWholeTagIsTheTagAutomatonRow.holds Try.pinned (OpenSpec.ofChange fnWholeTagIsTheTagAutomatonWrong)

/-- 'zzlaws_internal_markdown_b1.FnWholeTagDecidesAtItsClosingBracket': WHATEVER THE INPUT: true; the input reads as it did. -/
def fnWholeTagDecidesAtItsClosingBracketSpec : ChangeSpec := { name := "fnWholeTagDecidesAtItsClosingBracket", fn := fun _ => fun
  | [d] => { results := [.lit (.bool true)], args := [d] }
  | _ => none }
def fnWholeTagDecidesAtItsClosingBracketRow : OpenClaim := { program := "qxb6002915a", sum := "acc29c202e5cc7bcefbb5447f758c76abfd9eab2210361cfc141084966376c8e", func := "example.com/parlorkeep/parlorkeep/zzlaws_internal_markdown_b1.FnWholeTagDecidesAtItsClosingBracket", spec := "fnWholeTagDecidesAtItsClosingBracket", inPlace := ["internal/bytealg.IndexByteString", "internal/bytealg.IndexByte"], apart := false }
def FnWholeTagDecidesAtItsClosingBracketSaid : Prop := fnWholeTagDecidesAtItsClosingBracketRow.holds Try.pinned (OpenSpec.ofChange fnWholeTagDecidesAtItsClosingBracketSpec)

/-- ITS FALSE NEIGHBOUR: 'it returns false'. Refute it at one input. -/
def fnWholeTagDecidesAtItsClosingBracketWrong : ChangeSpec := { name := "fnWholeTagDecidesAtItsClosingBracket", fn := fun _ => fun
  | [d] => { results := [.lit (.bool false)], args := [d] }
  | _ => none }
def FnWholeTagDecidesAtItsClosingBracketWrongFalsely : Prop := fnWholeTagDecidesAtItsClosingBracketRow.holds Try.pinned (OpenSpec.ofChange fnWholeTagDecidesAtItsClosingBracketWrong)

end Rows
end Go.Proofs.Qxb6002915a
