/-
  No cell of these rows narrows 'for every input' (looked for: loops, veiled, ifaces, maps, wideKeys, modest, calm, conditions, laid).
  DERIVED. THE GIVEN ROWS OF THIS SEAT. 2 by the template 'for every input the law returns true; each argument reads behind the call as it read before'; 0 by the template 'total and deterministic' (their statements: Qxb6630473aFmtTotals.lean).
  GIVEN WITH THE SEED: the statements are not yours to turn. If you find one false, say at which input.
  Laid BY PROGRAM, IN A SANDBOX (cutbox-rows.mjs): the forced cells as the released guide's own fill.sh prints them over the translation 6b5f00812895b9db… (all of the seat's roots in one cut). By AI agents, Wed Nov 11 2026. No macro, syntax, notation, axiom, sorry.
-/
import Derived.Test.Qxb6630473aFmtChecked
import GoSem.Claim
import GoSem.ClaimJoined
import GoSem.ClaimMapViews
import Derived.JoinedTies
import Derived.KernelRfl
namespace Go.Proofs.Qxb6630473aFmt
/- THE CELL 'sum', in the pinned program and in every row, IS THE sha256 OF THE DUMP (.gsa) THAT Qxb6630473aFmtProg.lean LOADS. Nothing in Lean hashes anything: it is a label: what it is worth is what the hold of that sum in a sandbox is worth. -/
noncomputable def Tryf.pinned : Pinned := { name := "qxb6630473afmt", sum := "6b5f00812895b9dbc37fcb89798497d1d7eb3a6cd287687a5efa7ac844e3bf7e", checked := Tryf.checked }
namespace Rows
def none {H : Type} : Left H := { results := [], args := [] }

/-- 'zzlaws_internal_cluster_b1.FnFormatMembersSplitsAtAnyCut': WHATEVER THE INPUT: true; the input reads as it did. -/
def fnFormatMembersSplitsAtAnyCutSpec : ChangeSpec := { name := "fnFormatMembersSplitsAtAnyCut", fn := fun _ => fun
  | [d1, d2, d3] => { results := [.lit (.bool true)], args := [d1, d2, d3] }
  | _ => none }
def fnFormatMembersSplitsAtAnyCutRow : OpenClaim := { program := "qxb6630473afmt", sum := "6b5f00812895b9dbc37fcb89798497d1d7eb3a6cd287687a5efa7ac844e3bf7e", func := "example.com/holdfast/holdfast/zzlaws_internal_cluster_b1.FnFormatMembersSplitsAtAnyCut", spec := "fnFormatMembersSplitsAtAnyCut", stops := ["fmt.Sprintf"], inPlace := ["fmt.Sprintf", "internal/abi.NoEscape", "internal/bytealg.MakeNoZero"], apart := false }
/-- NO THEOREM (fmt's text is open here; it may be false): for the released tool's asking of the row's closed facts alone. THE STATEMENT IS 'FnFormatMembersSplitsAtAnyCutToldSaid' (Qxb6630473aFmtCards.lean). -/
def FnFormatMembersSplitsAtAnyCutFormAsk : Prop := fnFormatMembersSplitsAtAnyCutRow.holds Tryf.pinned (OpenSpec.ofChange fnFormatMembersSplitsAtAnyCutSpec)

/-- ITS FALSE NEIGHBOUR: 'it returns false'. Refute it at one input. -/
def fnFormatMembersSplitsAtAnyCutWrong : ChangeSpec := { name := "fnFormatMembersSplitsAtAnyCut", fn := fun _ => fun
  | [d1, d2, d3] => { results := [.lit (.bool false)], args := [d1, d2, d3] }
  | _ => none }
def FnFormatMembersSplitsAtAnyCutWrongFormAsk : Prop := fnFormatMembersSplitsAtAnyCutRow.holds Tryf.pinned (OpenSpec.ofChange fnFormatMembersSplitsAtAnyCutWrong)

/-- 'zzlaws_internal_cluster_b1.FnFormatMembersInjectiveAndSized': WHATEVER THE INPUT: true; the input reads as it did. -/
def fnFormatMembersInjectiveAndSizedSpec : ChangeSpec := { name := "fnFormatMembersInjectiveAndSized", fn := fun _ => fun
  | [d1, d2, d3, d4] => { results := [.lit (.bool true)], args := [d1, d2, d3, d4] }
  | _ => none }
def fnFormatMembersInjectiveAndSizedRow : OpenClaim := { program := "qxb6630473afmt", sum := "6b5f00812895b9dbc37fcb89798497d1d7eb3a6cd287687a5efa7ac844e3bf7e", func := "example.com/holdfast/holdfast/zzlaws_internal_cluster_b1.FnFormatMembersInjectiveAndSized", spec := "fnFormatMembersInjectiveAndSized", stops := ["fmt.Sprintf"], inPlace := ["fmt.Sprintf", "internal/abi.NoEscape", "internal/bytealg.MakeNoZero"], apart := false }
/-- NO THEOREM (fmt's text is open here; it may be false): for the released tool's asking of the row's closed facts alone. THE STATEMENT IS 'FnFormatMembersInjectiveAndSizedToldSaid' (Qxb6630473aFmtCards.lean). -/
def FnFormatMembersInjectiveAndSizedFormAsk : Prop := fnFormatMembersInjectiveAndSizedRow.holds Tryf.pinned (OpenSpec.ofChange fnFormatMembersInjectiveAndSizedSpec)

/-- ITS FALSE NEIGHBOUR: 'it returns false'. Refute it at one input. -/
def fnFormatMembersInjectiveAndSizedWrong : ChangeSpec := { name := "fnFormatMembersInjectiveAndSized", fn := fun _ => fun
  | [d1, d2, d3, d4] => { results := [.lit (.bool false)], args := [d1, d2, d3, d4] }
  | _ => none }
def FnFormatMembersInjectiveAndSizedWrongFormAsk : Prop := fnFormatMembersInjectiveAndSizedRow.holds Tryf.pinned (OpenSpec.ofChange fnFormatMembersInjectiveAndSizedWrong)

end Rows
end Go.Proofs.Qxb6630473aFmt
