/-
  No cell of these rows narrows 'for every input' (looked for: loops, veiled, ifaces, maps, wideKeys, modest, calm, conditions, laid).
  DERIVED. THE GIVEN ROWS OF THIS SEAT. 2 by the template 'for every input the law returns true; each argument reads behind the call as it read before'; 0 by the template 'total and deterministic' (their statements: Qxb6603145aTotals.lean).
  GIVEN WITH THE SEED: the statements are not yours to turn. If you find one false, say at which input.
  Laid BY PROGRAM, IN A SANDBOX (cutbox-rows.mjs): the forced cells as the released guide's own fill.sh prints them over the translation ae57c735a9ad7841… (all of the seat's roots in one cut). By AI agents, Wed Nov 11 2026. No macro, syntax, notation, axiom, sorry.
-/
import Derived.Test.Qxb6603145aChecked
import GoSem.Claim
import GoSem.ClaimJoined
import GoSem.ClaimMapViews
import Derived.JoinedTies
import Derived.KernelRfl
namespace Go.Proofs.Qxb6603145a
/- THE CELL 'sum', in the pinned program and in every row, IS THE sha256 OF THE DUMP (.gsa) THAT Qxb6603145aProg.lean LOADS. Nothing in Lean hashes anything: it is a label: what it is worth is what the hold of that sum in a sandbox is worth. -/
noncomputable def Try.pinned : Pinned := { name := "qxb6603145a", sum := "ae57c735a9ad784104f5c82e9f9f9f7c511780f1a65d7a81b5d4491465c1c497", checked := Try.checked }
namespace Rows
def none {H : Type} : Left H := { results := [], args := [] }

/-- 'zzlaws_root_b1.FnTallyCountUndoAndMerge': WHATEVER THE INPUT: true; the input reads as it did. -/
def fnTallyCountUndoAndMergeSpec : ChangeSpec := { name := "fnTallyCountUndoAndMerge", fn := fun _ => fun
  | [d1, d2, d3, d4, d5, d6] => { results := [.lit (.bool true)], args := [d1, d2, d3, d4, d5, d6] }
  | _ => none }
def fnTallyCountUndoAndMergeRow : OpenClaim := { program := "qxb6603145a", sum := "ae57c735a9ad784104f5c82e9f9f9f7c511780f1a65d7a81b5d4491465c1c497", func := "example.com/fuseline/fuseline/zzlaws_root_b1.FnTallyCountUndoAndMerge", spec := "fnTallyCountUndoAndMerge", apart := false }
def FnTallyCountUndoAndMergeSaid : Prop := fnTallyCountUndoAndMergeRow.holds Try.pinned (OpenSpec.ofChange fnTallyCountUndoAndMergeSpec)

/-- ITS FALSE NEIGHBOUR: 'it returns false'. Refute it at one input. -/
def fnTallyCountUndoAndMergeWrong : ChangeSpec := { name := "fnTallyCountUndoAndMerge", fn := fun _ => fun
  | [d1, d2, d3, d4, d5, d6] => { results := [.lit (.bool false)], args := [d1, d2, d3, d4, d5, d6] }
  | _ => none }
def FnTallyCountUndoAndMergeWrongFalsely : Prop := fnTallyCountUndoAndMergeRow.holds Try.pinned (OpenSpec.ofChange fnTallyCountUndoAndMergeWrong)

/-- 'zzlaws_root_b1.FnTallyCountScript': WHATEVER THE INPUT: true; the input reads as it did. -/
def fnTallyCountScriptSpec : ChangeSpec := { name := "fnTallyCountScript", fn := fun _ => fun
  | [d1, d2, d3, d4, d5] => { results := [.lit (.bool true)], args := [d1, d2, d3, d4, d5] }
  | _ => none }
def fnTallyCountScriptRow : OpenClaim := { program := "qxb6603145a", sum := "ae57c735a9ad784104f5c82e9f9f9f7c511780f1a65d7a81b5d4491465c1c497", func := "example.com/fuseline/fuseline/zzlaws_root_b1.FnTallyCountScript", spec := "fnTallyCountScript", apart := false }
def FnTallyCountScriptSaid : Prop := fnTallyCountScriptRow.holds Try.pinned (OpenSpec.ofChange fnTallyCountScriptSpec)

/-- ITS FALSE NEIGHBOUR: 'it returns false'. Refute it at one input. -/
def fnTallyCountScriptWrong : ChangeSpec := { name := "fnTallyCountScript", fn := fun _ => fun
  | [d1, d2, d3, d4, d5] => { results := [.lit (.bool false)], args := [d1, d2, d3, d4, d5] }
  | _ => none }
def FnTallyCountScriptWrongFalsely : Prop := fnTallyCountScriptRow.holds Try.pinned (OpenSpec.ofChange fnTallyCountScriptWrong)

end Rows
end Go.Proofs.Qxb6603145a
