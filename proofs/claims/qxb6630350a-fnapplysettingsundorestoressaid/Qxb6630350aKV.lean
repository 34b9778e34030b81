/-
  A slice of KV structs (two strings each) as the walks see it; the plain functions of the laws.
-/
import Derived.Test.Qxb6630350aRows
import Derived.WalkKit
namespace Go.Proofs.Qxb6630350a
open Go.RowKit

/-- The slice value (a, len, cap) leads, for every i below len, to the cells of K i and V i. -/
def KVs (w : World) (a : Option Addr) (len _cap : Nat) (K V : Nat → ByteArray) : Prop :=
  len ≤ maxLen ∧ (∀ i, i < len → (K i).size ≤ maxLen ∧ (V i).size ≤ maxLen) ∧
  ∃ b off, ∀ i, i < len → a = some ⟨b, off, none⟩ ∧ w.cell? ⟨b, off + i * 2, none⟩ = some (.string (K i)) ∧ w.cell? ⟨b, off + i * 2 + 1, none⟩ = some (.string (V i))

/-- what the last of the first n entries for x holds -/
def lastOf (K V : Nat → ByteArray) : Nat → ByteArray → Option ByteArray
  | 0, _ => none
  | n + 1, x => if K n = x then some (V n) else lastOf K V n x

theorem indexAt_kv {P : Program} {a : Option Addr} {len cap b off : Nat} (t : TypeId) (hu : P.underlying t = some (.slice (P.elem t))) (hs : ∀ w, (sizeOf (P.elem t)).run P w = .ok 2 w) (i : Nat) (hi : i < len) (ha : a = some ⟨b, off, none⟩) (w : World) :
    (Instr.indexAt t (.slice a len cap) (.int .i64 (i : Int))).run P w = .ok (.pointer (some ⟨b, off + i * 2, none⟩)) w := by
  subst ha
  rw [run_indexAt_slice (P := P) w t _ _ _ _ _ hu]
  rw [if_pos ⟨by omega, by omega⟩, hs]
  simp [Result.andThen, Addr.add]

end Go.Proofs.Qxb6630350a
