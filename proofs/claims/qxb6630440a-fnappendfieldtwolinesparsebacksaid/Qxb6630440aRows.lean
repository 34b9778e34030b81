/-
  No cell of these rows narrows 'for every input' (looked for: loops, veiled, ifaces, maps, wideKeys, modest, calm, conditions, laid).
  DERIVED. THE GIVEN ROWS OF THIS SEAT. 2 by the template 'for every input the law returns true; each argument reads behind the call as it read before'; 0 by the template 'total and deterministic' (their statements: Qxb6630440aTotals.lean).
  GIVEN WITH THE SEED: the statements are not yours to turn. If you find one false, say at which input.
  Laid BY PROGRAM, IN A SANDBOX (cutbox-rows.mjs): the forced cells as the released guide's own fill.sh prints them over the translation 3554bc2f5469282f… (all of the seat's roots in one cut). By AI agents, Wed Nov 11 2026. No macro, syntax, notation, axiom, sorry.
-/
import Derived.Test.Qxb6630440aChecked
import GoSem.Claim
import GoSem.ClaimJoined
import GoSem.ClaimMapViews
import Derived.JoinedTies
import Derived.KernelRfl
namespace Go.Proofs.Qxb6630440a
/- THE CELL 'sum', in the pinned program and in every row, IS THE sha256 OF THE DUMP (.gsa) THAT Qxb6630440aProg.lean LOADS. Nothing in Lean hashes anything: it is a label: what it is worth is what the hold of that sum in a sandbox is worth. -/
noncomputable def Try.pinned : Pinned := { name := "qxb6630440a", sum := "3554bc2f5469282f9c71e7b5a704dd0a0ba57fcd643bda31a6fdd6d2e860b39c", checked := Try.checked }
namespace Rows
def none {H : Type} : Left H := { results := [], args := [] }

/-- 'zzlaws_internal_http1_b1.FnAppendFieldTwoLinesParseBack': WHATEVER THE INPUT: true; the input reads as it did. -/
def fnAppendFieldTwoLinesParseBackSpec : ChangeSpec := { name := "fnAppendFieldTwoLinesParseBack", fn := fun _ => fun
  | [d1, d2, d3, d4, d5] => { results := [.lit (.bool true)], args := [d1, d2, d3, d4, d5] }
  | _ => none }
def fnAppendFieldTwoLinesParseBackRow : OpenClaim := { program := "qxb6630440a", sum := "3554bc2f5469282f9c71e7b5a704dd0a0ba57fcd643bda31a6fdd6d2e860b39c", func := "example.com/ura/ura/zzlaws_internal_http1_b1.FnAppendFieldTwoLinesParseBack", spec := "fnAppendFieldTwoLinesParseBack", apart := false }
def FnAppendFieldTwoLinesParseBackSaid : Prop := fnAppendFieldTwoLinesParseBackRow.holds Try.pinned (OpenSpec.ofChange fnAppendFieldTwoLinesParseBackSpec)

/-- ITS FALSE NEIGHBOUR: 'it returns false'. Refute it at one input. -/
def fnAppendFieldTwoLinesParseBackWrong : ChangeSpec := { name := "fnAppendFieldTwoLinesParseBack", fn := fun _ => fun
  | [d1, d2, d3, d4, d5] => { results := [.lit (.bool false)], args := [d1, d2, d3, d4, d5] }
  | _ => none }
def FnAppendFieldTwoLinesParseBackWrongFalsely : Prop := fnAppendFieldTwoLinesParseBackRow.holds Try.pinned (OpenSpec.ofChange fnAppendFieldTwoLinesParseBackWrong)

/-- 'zzlaws_internal_http1_b1.FnAppendFieldPrefixAndLength': WHATEVER THE INPUT: true; the input reads as it did. -/
def fnAppendFieldPrefixAndLengthSpec : ChangeSpec := { name := "fnAppendFieldPrefixAndLength", fn := fun _ => fun
  | [d1, d2, d3] => { results := [.lit (.bool true)], args := [d1, d2, d3] }
  | _ => none }
def fnAppendFieldPrefixAndLengthRow : OpenClaim := { program := "qxb6630440a", sum := "3554bc2f5469282f9c71e7b5a704dd0a0ba57fcd643bda31a6fdd6d2e860b39c", func := "example.com/ura/ura/zzlaws_internal_http1_b1.FnAppendFieldPrefixAndLength", spec := "fnAppendFieldPrefixAndLength", apart := false }
def FnAppendFieldPrefixAndLengthSaid : Prop := fnAppendFieldPrefixAndLengthRow.holds Try.pinned (OpenSpec.ofChange fnAppendFieldPrefixAndLengthSpec)

/-- ITS FALSE NEIGHBOUR: 'it returns false'. Refute it at one input. -/
def fnAppendFieldPrefixAndLengthWrong : ChangeSpec := { name := "fnAppendFieldPrefixAndLength", fn := fun _ => fun
  | [d1, d2, d3] => { results := [.lit (.bool false)], args := [d1, d2, d3] }
  | _ => none }
def FnAppendFieldPrefixAndLengthWrongFalsely : Prop := fnAppendFieldPrefixAndLengthRow.holds Try.pinned (OpenSpec.ofChange fnAppendFieldPrefixAndLengthWrong)

end Rows
end Go.Proofs.Qxb6630440a
