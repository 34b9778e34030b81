/-
  DERIVED. GIVEN WITH THE SEED: THE CARDS: each row of Qxb6630473aFmtRows.lean that lists a variable, with what it lists TIED to the program's text (the seventh form; the later family's looks); each row that meets fmt, with fmt's text TOLD by the authors' own Lean function (tested against real Go, not proved from fmt's source: count such statements apart). THE CARD IS WHAT COUNTS. Prove the row's statement (the work); the ties are given (Qxb6630473aFmtTie.lean); close each card by the builder's one call (the guide's Derived/Test/ToyasCard.lean, 'card_holds'). Laid BY PROGRAM, IN A SANDBOX (cutbox-door.mjs). By AI agents, Wed Nov 11 2026. No macro, syntax, notation, axiom, sorry.
-/
import Derived.Test.Qxb6630473aFmtRows
import GoSem.ClaimSeven
namespace Go.Proofs.Qxb6630473aFmt
namespace Rows

/-- THE TOLD CARD OF 'zzlaws_internal_cluster_b1.FnFormatMembersSplitsAtAnyCut'. -/
def fnFormatMembersSplitsAtAnyCutCard : Claim7 := { stood := { row := fnFormatMembersSplitsAtAnyCutRow, standIns := [], harness := (true, "f103fde7e484e3a5141d466152b6fa5166c60b3edbb0019e51ced56a6b3ab6d6"), looks := false }, told := true, goes := false }
def FnFormatMembersSplitsAtAnyCutToldSaid : Prop := Claim7.holds Tryf.pinned (.plain (OpenSpec.ofChange fnFormatMembersSplitsAtAnyCutSpec)) fnFormatMembersSplitsAtAnyCutCard
/-- ITS FALSE NEIGHBOUR. Refute it at one input. -/
def FnFormatMembersSplitsAtAnyCutToldWrongFalsely : Prop := Claim7.holds Tryf.pinned (.plain (OpenSpec.ofChange fnFormatMembersSplitsAtAnyCutWrong)) fnFormatMembersSplitsAtAnyCutCard

/-- THE TOLD CARD OF 'zzlaws_internal_cluster_b1.FnFormatMembersInjectiveAndSized'. -/
def fnFormatMembersInjectiveAndSizedCard : Claim7 := { stood := { row := fnFormatMembersInjectiveAndSizedRow, standIns := [], harness := (true, "f103fde7e484e3a5141d466152b6fa5166c60b3edbb0019e51ced56a6b3ab6d6"), looks := false }, told := true, goes := false }
def FnFormatMembersInjectiveAndSizedToldSaid : Prop := Claim7.holds Tryf.pinned (.plain (OpenSpec.ofChange fnFormatMembersInjectiveAndSizedSpec)) fnFormatMembersInjectiveAndSizedCard
/-- ITS FALSE NEIGHBOUR. Refute it at one input. -/
def FnFormatMembersInjectiveAndSizedToldWrongFalsely : Prop := Claim7.holds Tryf.pinned (.plain (OpenSpec.ofChange fnFormatMembersInjectiveAndSizedWrong)) fnFormatMembersInjectiveAndSizedCard
end Rows
end Go.Proofs.Qxb6630473aFmt
