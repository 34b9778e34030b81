/-
  No cell of these rows narrows 'for every input' (looked for: loops, veiled, ifaces, maps, wideKeys, modest, calm, conditions, laid).
  DERIVED. THE GIVEN ROWS OF THIS SEAT. 2 by the template 'for every input the law returns true; each argument reads behind the call as it read before'; 0 by the template 'total and deterministic' (their statements: Qxb6630395aTotals.lean).
  GIVEN WITH THE SEED: the statements are not yours to turn. If you find one false, say at which input.
  Laid BY PROGRAM, IN A SANDBOX (cutbox-rows.mjs): the forced cells as the released guide's own fill.sh prints them over the translation 4734b0c3a508a6e3… (all of the seat's roots in one cut). By AI agents, Wed Nov 11 2026. No macro, syntax, notation, axiom, sorry.
-/
import Derived.Test.Qxb6630395aChecked
import GoSem.Claim
import GoSem.ClaimJoined
import GoSem.ClaimMapViews
import Derived.JoinedTies
import Derived.KernelRfl
namespace Go.Proofs.Qxb6630395a
/- THE CELL 'sum', in the pinned program and in every row, IS THE sha256 OF THE DUMP (.gsa) THAT Qxb6630395aProg.lean LOADS. Nothing in Lean hashes anything: it is a label: what it is worth is what the hold of that sum in a sandbox is worth. -/
noncomputable def Try.pinned : Pinned := { name := "qxb6630395a", sum := "4734b0c3a508a6e34d98f8d5b7ce0374edbcc24522b6a872fa65a76483fb7d2e", checked := Try.checked }
namespace Rows
def none {H : Type} : Left H := { results := [], args := [] }

/-- 'zzlaws_address_b1.FnFromGroupsMatchesBitStreamModel': WHATEVER THE INPUT: true; the input reads as it did. -/
def fnFromGroupsMatchesBitStreamModelSpec : ChangeSpec := { name := "fnFromGroupsMatchesBitStreamModel", fn := fun _ => fun
  | [d] => { results := [.lit (.bool true)], args := [d] }
  | _ => none }
def fnFromGroupsMatchesBitStreamModelRow : OpenClaim := { program := "qxb6630395a", sum := "4734b0c3a508a6e34d98f8d5b7ce0374edbcc24522b6a872fa65a76483fb7d2e", func := "example.com/strict-grant/strict-grant/zzlaws_address_b1.FnFromGroupsMatchesBitStreamModel", spec := "fnFromGroupsMatchesBitStreamModel", apart := false }
def FnFromGroupsMatchesBitStreamModelSaid : Prop := fnFromGroupsMatchesBitStreamModelRow.holds Try.pinned (OpenSpec.ofChange fnFromGroupsMatchesBitStreamModelSpec)

/-- ITS FALSE NEIGHBOUR: 'it returns false'. Refute it at one input. -/
def fnFromGroupsMatchesBitStreamModelWrong : ChangeSpec := { name := "fnFromGroupsMatchesBitStreamModel", fn := fun _ => fun
  | [d] => { results := [.lit (.bool false)], args := [d] }
  | _ => none }
def FnFromGroupsMatchesBitStreamModelWrongFalsely : Prop := fnFromGroupsMatchesBitStreamModelRow.holds Try.pinned (OpenSpec.ofChange fnFromGroupsMatchesBitStreamModelWrong)

/-- 'zzlaws_address_b1.FnFromGroupsSplitsAtWholeBytes': WHATEVER THE INPUT: true; the input reads as it did. -/
def fnFromGroupsSplitsAtWholeBytesSpec : ChangeSpec := { name := "fnFromGroupsSplitsAtWholeBytes", fn := fun _ => fun
  | [d1, d2] => { results := [.lit (.bool true)], args := [d1, d2] }
  | _ => none }
def fnFromGroupsSplitsAtWholeBytesRow : OpenClaim := { program := "qxb6630395a", sum := "4734b0c3a508a6e34d98f8d5b7ce0374edbcc24522b6a872fa65a76483fb7d2e", func := "example.com/strict-grant/strict-grant/zzlaws_address_b1.FnFromGroupsSplitsAtWholeBytes", spec := "fnFromGroupsSplitsAtWholeBytes", apart := false }
def FnFromGroupsSplitsAtWholeBytesSaid : Prop := fnFromGroupsSplitsAtWholeBytesRow.holds Try.pinned (OpenSpec.ofChange fnFromGroupsSplitsAtWholeBytesSpec)

/-- ITS FALSE NEIGHBOUR: 'it returns false'. Refute it at one input. -/
def fnFromGroupsSplitsAtWholeBytesWrong : ChangeSpec := { name := "fnFromGroupsSplitsAtWholeBytes", fn := fun _ => fun
  | [d1, d2] => { results := [.lit (.bool false)], args := [d1, d2] }
  | _ => none }
def FnFromGroupsSplitsAtWholeBytesWrongFalsely : Prop := fnFromGroupsSplitsAtWholeBytesRow.holds Try.pinned (OpenSpec.ofChange fnFromGroupsSplitsAtWholeBytesWrong)

end Rows
end Go.Proofs.Qxb6630395a
