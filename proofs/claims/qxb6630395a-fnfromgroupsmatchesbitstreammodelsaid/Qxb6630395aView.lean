/-
  A slice of bytes as the walks see it.
-/
import Derived.Test.Qxb6630395aRows
import Derived.WalkKit
import Derived.Deep.QuietTactic
import Derived.BigQuiet
import Derived.WalkSmall
import Derived.WalkSpells
import Derived.Laws.CopyOwn
import Derived.Lib.SliceRun
namespace Go.Proofs.Qxb6630395a
open Go.RowKit

/-- The slice value (a, len, ..) leads, for every i below len, to a cell that holds the byte z i. -/
def BytesAt (w : World) (a : Option Addr) (len : Nat) (z : Nat → Nat) : Prop :=
  len ≤ maxLen ∧ (∀ i, i < len → z i < 256) ∧ ∃ b off, ∀ i, i < len → a = some ⟨b, off, none⟩ ∧ w.cell? ⟨b, off + i, none⟩ = some (.int .u8 (z i : Int))

theorem indexAt_byte {P : Program} {a : Option Addr} {len cap b off : Nat} (t : TypeId) (hu : P.underlying t = some (.slice (P.elem t))) (hs : ∀ w, (sizeOf (P.elem t)).run P w = .ok 1 w) (i : Nat) (hi : i < len) (ha : a = some ⟨b, off, none⟩) (w : World) :
    (Instr.indexAt t (.slice a len cap) (.int .i64 (i : Int))).run P w = .ok (.pointer (some ⟨b, off + i, none⟩)) w := by
  subst ha
  rw [run_indexAt_slice (P := P) w t _ _ _ _ _ hu]
  rw [if_pos ⟨by omega, by omega⟩, hs]
  simp [Result.andThen, Addr.add]

theorem size5 : ∀ w, (sizeOf (Try.prog.elem 22)).run Try.prog w = .ok 1 w := fun _ => by kernel_rfl
theorem info5 : (Try.prog.info? 5).map (fun i => (i.zero, i.size, i.bytes)) = some (some (.int .u8 0), 1, 1) := by kernel_rfl

theorem BytesAt.lt {w : World} {a : Option Addr} {len : Nat} {z : Nat → Nat} (h : BytesAt w a len z) : ∀ x, a = some x → 0 < len → x.block < w.heap.size := by
  obtain ⟨h1, h2, b, off, hc⟩ := h
  intro x hx hl
  obtain ⟨e, c1⟩ := hc 0 hl
  rw [e] at hx
  cases hx
  exact block_lt_of_cell c1

theorem BytesAt.below {w w' : World} {a : Option Addr} {len : Nat} {z : Nat → Nat} {B : Nat} (h : BytesAt w a len z) (hb : Below B w w') (hB : ∀ x, a = some x → 0 < len → x.block < B) : BytesAt w' a len z := by
  obtain ⟨h1, h2, b, off, hc⟩ := h
  refine ⟨h1, h2, b, off, fun i hi => ?_⟩
  obtain ⟨e, c1⟩ := hc i hi
  have hlt : b < B := hB _ e (by omega)
  exact ⟨e, (hb.cell (p := ⟨b, _, none⟩) hlt).trans c1⟩

theorem BytesAt.nil (w : World) (z : Nat → Nat) : BytesAt w none 0 z := ⟨Nat.zero_le _, fun _ hi => absurd hi (Nat.not_lt_zero _), 0, 0, fun _ hi => absurd hi (Nat.not_lt_zero _)⟩

/-- an owned row of bytes, as a list of values -/
def vals (f : Nat → Nat) (n : Nat) : List Value := (List.range n).map fun i => Value.int .u8 (f i : Int)

theorem vals_len (f : Nat → Nat) (n : Nat) : (vals f n).length = n := by simp [vals]
theorem vals_get (f : Nat → Nat) (n i : Nat) (h : i < n) : (vals f n)[i]? = some (.int .u8 (f i : Int)) := by simp [vals, h]
theorem vals_succ (f : Nat → Nat) (n : Nat) : vals f n ++ [.int .u8 (f n : Int)] = vals f (n + 1) := by simp [vals, List.range_succ]

theorem bytesAt_of_owns {w : World} {base g n cap : Nat} {f : Nat → Nat} (h : w.ownsRow base 5 1 (.slice (some ⟨g, 0, none⟩) n cap) n (vals f n)) (hn : n ≤ maxLen) (hf : ∀ i, i < n → f i < 256) : BytesAt w (some ⟨g, 0, none⟩) n f :=
  ⟨hn, hf, g, 0, fun i hi => ⟨rfl, by rw [Nat.zero_add, h.cellAt i (by omega), vals_get f n i hi]⟩⟩

end Go.Proofs.Qxb6630395a
