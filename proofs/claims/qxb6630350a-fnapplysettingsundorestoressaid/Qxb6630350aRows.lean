/-
  No cell of these rows narrows 'for every input' (looked for: loops, veiled, ifaces, maps, wideKeys, modest, calm, conditions, laid).
  DERIVED. THE GIVEN ROWS OF THIS SEAT. 2 by the template 'for every input the law returns true; each argument reads behind the call as it read before'; 0 by the template 'total and deterministic' (their statements: Qxb6630350aTotals.lean).
  GIVEN WITH THE SEED: the statements are not yours to turn. If you find one false, say at which input.
  Laid BY PROGRAM, IN A SANDBOX (cutbox-rows.mjs): the forced cells as the released guide's own fill.sh prints them over the translation 939a21770aafd434… (all of the seat's roots in one cut). By AI agents, Wed Nov 11 2026. No macro, syntax, notation, axiom, sorry.
-/
import Derived.Test.Qxb6630350aChecked
import GoSem.Claim
import GoSem.ClaimJoined
import GoSem.ClaimMapViews
import Derived.JoinedTies
import Derived.KernelRfl
namespace Go.Proofs.Qxb6630350a
/- THE CELL 'sum', in the pinned program and in every row, IS THE sha256 OF THE DUMP (.gsa) THAT Qxb6630350aProg.lean LOADS. Nothing in Lean hashes anything: it is a label: what it is worth is what the hold of that sum in a sandbox is worth. -/
noncomputable def Try.pinned : Pinned := { name := "qxb6630350a", sum := "939a21770aafd4343b5194f2263b16ea9603e46a32e95360b30b07c20ef4fbe2", checked := Try.checked }
namespace Rows
def none {H : Type} : Left H := { results := [], args := [] }

/-- 'zzlaws_internal_api_b1.FnApplySettingsMatchesMerge': WHATEVER THE INPUT: true; the input reads as it did. -/
def fnApplySettingsMatchesMergeSpec : ChangeSpec := { name := "fnApplySettingsMatchesMerge", fn := fun _ => fun
  | [d1, d2] => { results := [.lit (.bool true)], args := [d1, d2] }
  | _ => none }
def fnApplySettingsMatchesMergeRow : OpenClaim := { program := "qxb6630350a", sum := "939a21770aafd4343b5194f2263b16ea9603e46a32e95360b30b07c20ef4fbe2", func := "example.com/moorline/moorline/zzlaws_internal_api_b1.FnApplySettingsMatchesMerge", spec := "fnApplySettingsMatchesMerge", apart := false }
def FnApplySettingsMatchesMergeSaid : Prop := fnApplySettingsMatchesMergeRow.holds Try.pinned (OpenSpec.ofChange fnApplySettingsMatchesMergeSpec)

/-- ITS FALSE NEIGHBOUR: 'it returns false'. Refute it at one input. -/
def fnApplySettingsMatchesMergeWrong : ChangeSpec := { name := "fnApplySettingsMatchesMerge", fn := fun _ => fun
  | [d1, d2] => { results := [.lit (.bool false)], args := [d1, d2] }
  | _ => none }
def FnApplySettingsMatchesMergeWrongFalsely : Prop := fnApplySettingsMatchesMergeRow.holds Try.pinned (OpenSpec.ofChange fnApplySettingsMatchesMergeWrong)

/-- 'zzlaws_internal_api_b1.FnApplySettingsUndoRestores': WHATEVER THE INPUT: true; the input reads as it did. -/
def fnApplySettingsUndoRestoresSpec : ChangeSpec := { name := "fnApplySettingsUndoRestores", fn := fun _ => fun
  | [d1, d2] => { results := [.lit (.bool true)], args := [d1, d2] }
  | _ => none }
def fnApplySettingsUndoRestoresRow : OpenClaim := { program := "qxb6630350a", sum := "939a21770aafd4343b5194f2263b16ea9603e46a32e95360b30b07c20ef4fbe2", func := "example.com/moorline/moorline/zzlaws_internal_api_b1.FnApplySettingsUndoRestores", spec := "fnApplySettingsUndoRestores", apart := false }
def FnApplySettingsUndoRestoresSaid : Prop := fnApplySettingsUndoRestoresRow.holds Try.pinned (OpenSpec.ofChange fnApplySettingsUndoRestoresSpec)

/-- ITS FALSE NEIGHBOUR: 'it returns false'. Refute it at one input. -/
def fnApplySettingsUndoRestoresWrong : ChangeSpec := { name := "fnApplySettingsUndoRestores", fn := fun _ => fun
  | [d1, d2] => { results := [.lit (.bool false)], args := [d1, d2] }
  | _ => none }
def FnApplySettingsUndoRestoresWrongFalsely : Prop := fnApplySettingsUndoRestoresRow.holds Try.pinned (OpenSpec.ofChange fnApplySettingsUndoRestoresWrong)

end Rows
end Go.Proofs.Qxb6630350a
