/-
  A slice of bytes as the walks see it: a list of bytes; strings are lists of bytes too.
-/
import Derived.Test.Qxb6630440aRows
import Derived.WalkKit
import Derived.Deep.QuietTactic
import Derived.BigQuiet
import Derived.WalkSmall
import Derived.WalkSpells
import Derived.Lib.SliceRun
import Derived.Lib.AppendStr
import Derived.Deep.DeepCutAuto
namespace Go.Proofs.Qxb6630440a
open Go.RowKit

/-- byte i of a list, as a number -/
def at' (l : List UInt8) (i : Nat) : Int := ((l.getD i 0).toNat : Int)

/-- The slice value (a, l.length, ..) leads, for every i below the length, to a cell that holds byte i. -/
def BytesAt (w : World) (a : Option Addr) (l : List UInt8) : Prop :=
  l.length ≤ maxLen ∧ ∃ b off, ∀ i, i < l.length → a = some ⟨b, off, none⟩ ∧ w.cell? ⟨b, off + i, none⟩ = some (.int .u8 (at' l i))

theorem indexAt_byte {P : Program} {a : Option Addr} {len cap b off : Nat} (t : TypeId) (hu : P.underlying t = some (.slice (P.elem t))) (hs : ∀ w, (sizeOf (P.elem t)).run P w = .ok 1 w) (i : Nat) (hi : i < len) (ha : a = some ⟨b, off, none⟩) (w : World) :
    (Instr.indexAt t (.slice a len cap) (.int .i64 (i : Int))).run P w = .ok (.pointer (some ⟨b, off + i, none⟩)) w := by
  subst ha
  rw [run_indexAt_slice (P := P) w t _ _ _ _ _ hu]
  rw [if_pos ⟨by omega, by omega⟩, hs]
  simp [Result.andThen, Addr.add]

theorem size5 : ∀ w, (sizeOf (Try.prog.elem 22)).run Try.prog w = .ok 1 w := fun _ => by kernel_rfl
theorem info5 : (Try.prog.info? 5).map (fun i => (i.zero, i.size, i.bytes)) = some (some (.int .u8 0), 1, 1) := by kernel_rfl

theorem BytesAt.lt {w : World} {a : Option Addr} {l : List UInt8} (h : BytesAt w a l) : ∀ x, a = some x → 0 < l.length → x.block < w.heap.size := by
  obtain ⟨h1, b, off, hc⟩ := h
  intro x hx hl
  obtain ⟨e, c1⟩ := hc 0 hl
  rw [e] at hx
  cases hx
  exact block_lt_of_cell c1

theorem BytesAt.below {w w' : World} {a : Option Addr} {l : List UInt8} {B : Nat} (h : BytesAt w a l) (hb : Below B w w') (hB : ∀ x, a = some x → 0 < l.length → x.block < B) : BytesAt w' a l := by
  obtain ⟨h1, b, off, hc⟩ := h
  refine ⟨h1, b, off, fun i hi => ?_⟩
  obtain ⟨e, c1⟩ := hc i hi
  have hlt : b < B := hB _ e (by omega)
  exact ⟨e, (hb.cell (p := ⟨b, _, none⟩) hlt).trans c1⟩

theorem BytesAt.nil (w : World) (a : Option Addr) : BytesAt w a [] := ⟨Nat.zero_le _, 0, 0, fun _ hi => absurd hi (Nat.not_lt_zero _)⟩

/-- bytes as cells -/
def cellsOf (l : List UInt8) : List Value := l.map fun b => Value.int .u8 b.toNat

theorem cellsOf_len (l : List UInt8) : (cellsOf l).length = l.length := by simp [cellsOf]
theorem cellsOf_get (l : List UInt8) (i : Nat) (h : i < l.length) : (cellsOf l)[i]? = some (.int .u8 (at' l i)) := by
  simp [cellsOf, at', List.getD, h]
theorem cellsOf_append (l m : List UInt8) : cellsOf l ++ cellsOf m = cellsOf (l ++ m) := by simp [cellsOf]
theorem cellsOf_str (s : ByteArray) : Lib.strCells s = cellsOf s.data.toList := rfl

/-- a slice value that owns a row of bytes from block 'base' on -/
def OwnsB (w : World) (base : Nat) (v : Value) (l : List UInt8) : Prop := w.ownsRow base 5 1 v l.length (cellsOf l)

theorem OwnsB.bytes {w : World} {base g cap : Nat} {l : List UInt8} (h : OwnsB w base (.slice (some ⟨g, 0, none⟩) l.length cap) l) (hl : l.length ≤ maxLen) : BytesAt w (some ⟨g, 0, none⟩) l :=
  ⟨hl, g, 0, fun i hi => ⟨rfl, by rw [Nat.zero_add, World.ownsRow.cellAt h i (by omega), cellsOf_get l i hi]⟩⟩

theorem OwnsB.nil (w : World) (base : Nat) : OwnsB w base (.slice none 0 0) [] := World.ownsRow_nil w base 5 1

theorem OwnsB.kept {w w' : World} {base : Nat} {v : Value} {l : List UInt8} {row : Option Nat} (h : OwnsB w base v l) (hg : w.grownBy w' row) (hne : ∀ k, v.ownBlock = some k → row ≠ some k) : OwnsB w' base v l := by
  obtain ⟨h1, h2⟩ := h
  refine ⟨h1, ?_⟩
  rcases h2 with h2 | ⟨g, cap, cur, rfl, hb, hh, r⟩
  · exact Or.inl h2
  · exact Or.inr ⟨g, cap, cur, rfl, hb, (hg.block g (Array.getElem?_eq_some_iff.1 hh).1 (fun e => hne g rfl e.symm)).trans hh, r⟩

/-- some bool is returned (behind a name) -/
def SomeBool (e : Ending) : Prop := ∃ x : Bool, e = .returned (.bool x)

theorem ret_bool {a b : Bool} (h : a = b) : Ending.returned (.bool a) = .returned (.bool b) := by rw [h]

end Go.Proofs.Qxb6630440a
