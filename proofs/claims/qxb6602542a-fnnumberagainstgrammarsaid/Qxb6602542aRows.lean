/-
  No cell of these rows narrows 'for every input' (looked for: loops, veiled, ifaces, maps, wideKeys, modest, calm, conditions, laid).
  DERIVED. THE GIVEN ROWS OF THIS SEAT. 4 by the template 'for every input the law returns true; each argument reads behind the call as it read before'; 0 by the template 'total and deterministic' (their statements: Qxb6602542aTotals.lean).
  GIVEN WITH THE SEED: the statements are not yours to turn. If you find one false, say at which input.
  Laid BY PROGRAM, IN A SANDBOX (cutbox-rows.mjs): the forced cells as the released guide's own fill.sh prints them over the translation 9bc31e956d4df3f5… (all of the seat's roots in one cut). By AI agents, Wed Nov 11 2026. No macro, syntax, notation, axiom, sorry.
-/
import Derived.Test.Qxb6602542aChecked
import GoSem.Claim
import GoSem.ClaimJoined
import GoSem.ClaimMapViews
import Derived.JoinedTies
import Derived.KernelRfl
namespace Go.Proofs.Qxb6602542a
/- THE CELL 'sum', in the pinned program and in every row, IS THE sha256 OF THE DUMP (.gsa) THAT Qxb6602542aProg.lean LOADS. Nothing in Lean hashes anything: it is a label: what it is worth is what the hold of that sum in a sandbox is worth. -/
noncomputable def Try.pinned : Pinned := { name := "qxb6602542a", sum := "9bc31e956d4df3f5fe45758a271cdff8cf1dac4993550018cbbff71ddf89dae5", checked := Try.checked }
namespace Rows
def none {H : Type} : Left H := { results := [], args := [] }

/-- 'zzlaws_internal_exactjson_b1.FnFeedMatchesRecursiveDescent': WHATEVER THE INPUT: true; the input reads as it did. -/
def fnFeedMatchesRecursiveDescentSpec : ChangeSpec := { name := "fnFeedMatchesRecursiveDescent", fn := fun _ => fun
  | [d1, d2, d3, d4] => { results := [.lit (.bool true)], args := [d1, d2, d3, d4] }
  | _ => none }
def fnFeedMatchesRecursiveDescentRow : OpenClaim := { program := "qxb6602542a", sum := "9bc31e956d4df3f5fe45758a271cdff8cf1dac4993550018cbbff71ddf89dae5", func := "example.com/lichen/lichen/zzlaws_internal_exactjson_b1.FnFeedMatchesRecursiveDescent", spec := "fnFeedMatchesRecursiveDescent", recurses := true, apart := false }
def FnFeedMatchesRecursiveDescentSaid : Prop := fnFeedMatchesRecursiveDescentRow.holds Try.pinned (OpenSpec.ofChange fnFeedMatchesRecursiveDescentSpec)

/-- ITS FALSE NEIGHBOUR: 'it returns false'. Refute it at one input. -/
def fnFeedMatchesRecursiveDescentWrong : ChangeSpec := { name := "fnFeedMatchesRecursiveDescent", fn := fun _ => fun
  | [d1, d2, d3, d4] => { results := [.lit (.bool false)], args := [d1, d2, d3, d4] }
  | _ => none }
def FnFeedMatchesRecursiveDescentWrongFalsely : Prop := fnFeedMatchesRecursiveDescentRow.holds Try.pinned (OpenSpec.ofChange fnFeedMatchesRecursiveDescentWrong)

/-- 'zzlaws_internal_exactjson_b1.FnFeedPiecesAgreeWithWhole': WHATEVER THE INPUT: true; the input reads as it did. -/
def fnFeedPiecesAgreeWithWholeSpec : ChangeSpec := { name := "fnFeedPiecesAgreeWithWhole", fn := fun _ => fun
  | [d1, d2, d3] => { results := [.lit (.bool true)], args := [d1, d2, d3] }
  | _ => none }
def fnFeedPiecesAgreeWithWholeRow : OpenClaim := { program := "qxb6602542a", sum := "9bc31e956d4df3f5fe45758a271cdff8cf1dac4993550018cbbff71ddf89dae5", func := "example.com/lichen/lichen/zzlaws_internal_exactjson_b1.FnFeedPiecesAgreeWithWhole", spec := "fnFeedPiecesAgreeWithWhole", apart := false }
def FnFeedPiecesAgreeWithWholeSaid : Prop := fnFeedPiecesAgreeWithWholeRow.holds Try.pinned (OpenSpec.ofChange fnFeedPiecesAgreeWithWholeSpec)

/-- ITS FALSE NEIGHBOUR: 'it returns false'. Refute it at one input. -/
def fnFeedPiecesAgreeWithWholeWrong : ChangeSpec := { name := "fnFeedPiecesAgreeWithWhole", fn := fun _ => fun
  | [d1, d2, d3] => { results := [.lit (.bool false)], args := [d1, d2, d3] }
  | _ => none }
def FnFeedPiecesAgreeWithWholeWrongFalsely : Prop := fnFeedPiecesAgreeWithWholeRow.holds Try.pinned (OpenSpec.ofChange fnFeedPiecesAgreeWithWholeWrong)

/-- 'zzlaws_internal_exactjson_b1.FnBeginCaseTable': WHATEVER THE INPUT: true; the input reads as it did. -/
def fnBeginCaseTableSpec : ChangeSpec := { name := "fnBeginCaseTable", fn := fun _ => fun
  | [d1, d2, d3, d4, d5, d6, d7, d8, d9, d10, d11] => { results := [.lit (.bool true)], args := [d1, d2, d3, d4, d5, d6, d7, d8, d9, d10, d11] }
  | _ => none }
def fnBeginCaseTableRow : OpenClaim := { program := "qxb6602542a", sum := "9bc31e956d4df3f5fe45758a271cdff8cf1dac4993550018cbbff71ddf89dae5", func := "example.com/lichen/lichen/zzlaws_internal_exactjson_b1.FnBeginCaseTable", spec := "fnBeginCaseTable", apart := false }
def FnBeginCaseTableSaid : Prop := fnBeginCaseTableRow.holds Try.pinned (OpenSpec.ofChange fnBeginCaseTableSpec)

/-- ITS FALSE NEIGHBOUR: 'it returns false'. Refute it at one input. -/
def fnBeginCaseTableWrong : ChangeSpec := { name := "fnBeginCaseTable", fn := fun _ => fun
  | [d1, d2, d3, d4, d5, d6, d7, d8, d9, d10, d11] => { results := [.lit (.bool false)], args := [d1, d2, d3, d4, d5, d6, d7, d8, d9, d10, d11] }
  | _ => none }
def FnBeginCaseTableWrongFalsely : Prop := fnBeginCaseTableRow.holds Try.pinned (OpenSpec.ofChange fnBeginCaseTableWrong)

/-- 'zzlaws_internal_exactjson_b1.FnNumberAgainstGrammar': WHATEVER THE INPUT: true; the input reads as it did. -/
def fnNumberAgainstGrammarSpec : ChangeSpec := { name := "fnNumberAgainstGrammar", fn := fun _ => fun
  | [d1, d2, d3, d4, d5, d6, d7, d8, d9, d10, d11, d12] => { results := [.lit (.bool true)], args := [d1, d2, d3, d4, d5, d6, d7, d8, d9, d10, d11, d12] }
  | _ => none }
def fnNumberAgainstGrammarRow : OpenClaim := { program := "qxb6602542a", sum := "9bc31e956d4df3f5fe45758a271cdff8cf1dac4993550018cbbff71ddf89dae5", func := "example.com/lichen/lichen/zzlaws_internal_exactjson_b1.FnNumberAgainstGrammar", spec := "fnNumberAgainstGrammar", apart := false }
def FnNumberAgainstGrammarSaid : Prop := fnNumberAgainstGrammarRow.holds Try.pinned (OpenSpec.ofChange fnNumberAgainstGrammarSpec)

/-- ITS FALSE NEIGHBOUR: 'it returns false'. Refute it at one input. -/
def fnNumberAgainstGrammarWrong : ChangeSpec := { name := "fnNumberAgainstGrammar", fn := fun _ => fun
  | [d1, d2, d3, d4, d5, d6, d7, d8, d9, d10, d11, d12] => { results := [.lit (.bool false)], args := [d1, d2, d3, d4, d5, d6, d7, d8, d9, d10, d11, d12] }
  | _ => none }
def FnNumberAgainstGrammarWrongFalsely : Prop := fnNumberAgainstGrammarRow.holds Try.pinned (OpenSpec.ofChange fnNumberAgainstGrammarWrong)

end Rows
end Go.Proofs.Qxb6602542a
