/-
  What fmt is asked at fmt.Sprintf((percent d, equals, percent s), id, addr), and the text that it gives (told).
-/
import Derived.Test.Qxb6630473aFmtCards
import Derived.Stop.CallBack
import Derived.Stop.IfaceNil
import Derived.Stop.FmtTextKit
import Derived.Stop.Texts
import Derived.Stop.Told
import Derived.WalkKit
import Derived.WalkSpells
import Derived.WalkSmall
import Derived.Deep.QuietTactic
import Derived.BigQuiet
namespace Go.Proofs.Qxb6630473aFmt
open Go.RowKit Go.Extern.Stop Go.Stop Go.Extern Go.Kit

theorem call13 (args : Array Value) (w : World) : (callFunc 13 args).run Tryf.prog w = ((FmtStop.sprintf #[9, 68] #[9] args).run Tryf.prog w).andThen fun v w' => .ok (.value v) w' :=
  run_callFunc_extern Tryf.func13 (by kernel_rfl) (by kernel_rfl) (by kernel_rfl) (by kernel_rfl) args w

theorem guardOk (name : String) (w : World) : (FmtStop.guard name).run Tryf.prog w = .ok () w := by kernel_rfl

theorem printedOk : FmtStop.printed? ⟨#[37, 100, 61, 37, 115]⟩ 2 = some [(0, 100, false), (1, 115, false)] := by kernel_rfl
theorem printedRun (w : World) : (FmtDoors.printed ⟨#[37, 100, 61, 37, 115]⟩ 2).run Tryf.prog w = .ok [(0, 100, false), (1, 115, false)] w := by kernel_rfl

def shape30 : List UInt8 := [9, 6, 0, 0, 0, 0, 0, 0, 0, 117, 105, 110, 116, 54, 52]
def shape9 : List UInt8 := [12, 6, 0, 0, 0, 0, 0, 0, 0, 115, 116, 114, 105, 110, 103]

theorem op30 (name : String) (x : Int) (w : World) : (FmtStop.operand name false 100 false (.iface 30 (.int .u64 x))).run Tryf.prog w = .ok (shape30, Go.Extern.Stop.digits 8 (x % 2 ^ 64).toNat) w := by kernel_rfl
theorem op9 (name : String) (x : ByteArray) (w : World) : (FmtStop.operand name false 115 false (.iface 9 (.string x))).run Tryf.prog w = .ok (shape9, FmtStop.pack x.data.toList) w := by kernel_rfl

/-- what fmt is asked -/
def asked (id : Int) (s : List UInt8) : List (List UInt8) := [[37, 100, 61, 37, 115], shape30, digits 8 (id % 18446744073709551616).toNat, shape9, FmtStop.pack s]

theorem t_parse : (FmtText.parse [37, 100, 61, 37, 115]).map FmtText.glue = some [.verb {} 100, .lit [61], .verb {} 115] := by rfl

/-- an entry: the id in decimal, '=', the address -/
def entry (id : Nat) (s : List UInt8) : List UInt8 := Lib.decDigits id ++ (61 :: s)

theorem t_text (id : Nat) (s : List UInt8) (hs : s.length < 2 ^ 64) (hid : id < 18446744073709551616) : FmtText.text "fmt.Sprintf" (asked (id : Int) s) = some (entry id s) := by
  have hw : (Lit.int .u64 (id : Int)).wf = true := WalkArith.wf_u64 (by omega)
  have hi := FmtText.operand_int_at (sh := shape30) (k := .u64) rfl rfl (id : Int) hw
  have hn := FmtText.operand_str_at (sh := shape9) rfl rfl s hs
  rw [asked, FmtText.text_sprintf_glued t_parse (FmtText.operands_cons hi (FmtText.operands_cons hn FmtText.operands_nil))]
  have hit : Lib.itoa (id : Int) = Lib.decDigits id := by rw [Lib.itoa, if_neg (by omega), Int.toNat_natCast]
  simp [FmtText.render, FmtText.printArg_d _ _ hw, FmtText.printArg_s_str, entry, hit]

theorem t_text_of (F : Interp) (id : Nat) (s : ByteArray) (hs : s.size ≤ 2000000) (hid : id < 18446744073709551616) :
    FmtStop.textOf (F.told "fmt.Sprintf" (asked (id : Int) s.data.toList) 0) = ⟨(entry id s.data.toList).toArray⟩ := by
  have hl : s.data.toList.length = s.size := by rw [Array.length_toList]; rfl
  have hw : (Lit.int .u64 (id : Int)).wf = true := WalkArith.wf_u64 (by omega)
  have hd := FmtText.itoa_length_le hw
  have hit : Lib.itoa (id : Int) = Lib.decDigits id := by rw [Lib.itoa, if_neg (by omega), Int.toNat_natCast]
  rw [hit] at hd
  have ht := told_string F (t_text id s.data.toList (by omega) hid) (by simp only [entry, List.length_append, List.length_cons]; omega)
  have := textOf_list F.told "fmt.Sprintf" (asked (id : Int) s.data.toList)
  rw [ht] at this
  exact WideShapes.bytes_inj (by rw [this])

end Go.Proofs.Qxb6630473aFmt
