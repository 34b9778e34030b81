/-
  FnApplySettingsUndoRestores: the plain laws.
-/
import Derived.Test.Qxb6630350aCount
namespace Go.Proofs.Qxb6630350a
open Go.Maps Go.RowKit

/-- the undo behind k rounds -/
def undoTo (K1 V1 : Nat → ByteArray) (n1 : Nat) (K2 : Nat → ByteArray) : Nat → ByteArray → Option ByteArray
  | 0 => fun _ => none
  | k + 1 => putF (undoTo K1 V1 n1 K2 k) (K2 k) (lastV (lastOf K1 V1 n1 (K2 k)))

theorem undoTo_hit {K1 V1 : Nat → ByteArray} {n1 : Nat} {K2 : Nat → ByteArray} {i : Nat} : ∀ {k : Nat}, i < k → undoTo K1 V1 n1 K2 k (K2 i) = some (lastV (lastOf K1 V1 n1 (K2 i)))
  | 0, h => absurd h (Nat.not_lt_zero _)
  | k + 1, h => by
    unfold undoTo putF
    by_cases e : K2 k = K2 i
    · rw [if_pos e, e]
    · rw [if_neg e]
      have : i ≠ k := fun e' => e (by rw [e'])
      exact undoTo_hit (by omega)

theorem undoTo_miss {K1 V1 : Nat → ByteArray} {n1 : Nat} {K2 : Nat → ByteArray} {x : ByteArray} : ∀ {k : Nat}, (∀ i, i < k → K2 i ≠ x) → undoTo K1 V1 n1 K2 k x = none
  | 0, _ => rfl
  | k + 1, h => by
    unfold undoTo putF
    rw [if_neg (h k (by omega))]
    exact undoTo_miss (fun i hi => h i (by omega))

theorem lastOf_ne {K V : Nat → ByteArray} {x u : ByteArray} : ∀ {n : Nat}, (∀ i, i < n → (V i).toList.isEmpty = false) → lastOf K V n x = some u → u.toList.isEmpty = false
  | 0, _, h => by cases h
  | n + 1, hv, h => by
    by_cases e : K n = x
    · rw [lastOf, if_pos e] at h
      cases h
      exact hv n (by omega)
    · rw [lastOf, if_neg e] at h
      exact lastOf_ne (fun i hi => hv i (by omega)) h

theorem lastOf_none {K V : Nat → ByteArray} {x : ByteArray} : ∀ {n : Nat}, (∀ i, i < n → K i ≠ x) → lastOf K V n x = none
  | 0, _ => rfl
  | n + 1, h => by
    rw [lastOf, if_neg (h n (by omega))]
    exact lastOf_none (fun i hi => h i (by omega))

theorem lastOf_some {K V : Nat → ByteArray} {i : Nat} : ∀ {n : Nat}, i < n → ∃ u, lastOf K V n (K i) = some u
  | 0, h => absurd h (Nat.not_lt_zero _)
  | n + 1, h => by
    by_cases e : K n = K i
    · exact ⟨V n, by rw [lastOf, if_pos e]⟩
    · have : i ≠ n := fun e' => e (by rw [e'])
      obtain ⟨u, hu⟩ := lastOf_some (K := K) (V := V) (i := i) (n := n) (by omega)
      exact ⟨u, by rw [lastOf, if_neg e, hu]⟩

/-- the undo gives the settings back -/
theorem undone {K1 V1 : Nat → ByteArray} {n1 : Nat} {K2 V2 : Nat → ByteArray} {n2 : Nat} (hv : ∀ i, i < n1 → (V1 i).toList.isEmpty = false) (x : ByteArray) :
    mergeO (undoTo K1 V1 n1 K2 n2 x) (merged K1 V1 n1 K2 V2 n2 x) = lastOf K1 V1 n1 x := by
  by_cases h : ∃ i, i < n2 ∧ K2 i = x
  · obtain ⟨i, hi, rfl⟩ := h
    rw [undoTo_hit hi]
    cases hl : lastOf K1 V1 n1 (K2 i) with
    | none => simp [mergeO, lastV, ByteArray.toList_eq]
    | some u =>
      have := lastOf_ne hv hl
      simp [mergeO, lastV, this]
  · have hm : ∀ i, i < n2 → K2 i ≠ x := fun i hi e => h ⟨i, hi, e⟩
    rw [undoTo_miss hm, merged, lastOf_none hm]
    rfl

theorem lastV_size {w : World} {a : Option Addr} {len cap : Nat} {K V : Nat → ByteArray} (h : KVs w a len cap K V) (x : ByteArray) : (lastV (lastOf K V len x)).size ≤ maxLen := by
  have hs := h.2.1
  clear h
  induction len with
  | zero => simp [lastV, lastOf, ByteArray.size]
  | succ n ih =>
    unfold lastOf
    split
    · exact (hs n (by omega)).2
    · exact ih (fun i hi => hs i (by omega))

theorem KVs.nil (w : World) (K V : Nat → ByteArray) : KVs w none 0 0 K V := ⟨Nat.zero_le _, fun _ hi => absurd hi (Nat.not_lt_zero _), 0, 0, fun _ hi => absurd hi (Nat.not_lt_zero _)⟩

theorem keyAt_self {n1 : Nat} {K1 K2 : Nat → ByteArray} {i : Nat} (h : i < n1) : keyAt n1 K1 K2 i = K1 i := by rw [keyAt, if_pos h]

theorem self_cov {K V : Nat → ByteArray} {n : Nat} {K2 : Nat → ByteArray} {x : ByteArray} (h : (lastOf K V n x).isSome = true) : ∃ i, i < n ∧ keyAt n K K2 i = x := by
  obtain ⟨i, hi, hx⟩ := lastOf_cov h
  exact ⟨i, hi, by rw [keyAt_self hi, hx]⟩

end Go.Proofs.Qxb6630350a
