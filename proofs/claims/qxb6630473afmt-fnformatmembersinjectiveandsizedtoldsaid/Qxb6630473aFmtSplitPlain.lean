/-
  Plain laws: a spec splits at a cut; the spec of one member; the three slices of the members.
-/
import Derived.Test.Qxb6630473aFmtGuard
namespace Go.Proofs.Qxb6630473aFmt
open Go.RowKit

def bytesOf (I : Nat → Nat) (S : Nat → ByteArray) (n : Nat) : List (List UInt8) := (List.range n).map fun i => entry (I i) (S i).data.toList

theorem specOf_data (I : Nat → Nat) (S : Nat → ByteArray) (n : Nat) : (specOf I S n).data.toList = Lib.join (bytesOf I S n) [44] := by
  show (Lib.join (((List.range n).map (ent I S)).map (·.data.toList)) [44]).toArray.toList = _
  rw [List.toList_toArray, List.map_map]
  rfl

theorem join_cons2 (x y : List UInt8) (r : List (List UInt8)) (sep : List UInt8) : Lib.join (x :: y :: r) sep = x ++ (sep ++ Lib.join (y :: r) sep) := by
  simp [Lib.join, List.intercalate, List.intersperse]
theorem join_one (x sep : List UInt8) : Lib.join [x] sep = x := by simp [Lib.join]

theorem join_append (sep : List UInt8) {ys : List (List UInt8)} (hy : ys ≠ []) : ∀ xs : List (List UInt8), xs ≠ [] → Lib.join (xs ++ ys) sep = Lib.join xs sep ++ (sep ++ Lib.join ys sep)
  | [], h => absurd rfl h
  | [x], _ => by
    cases ys with
    | nil => exact absurd rfl hy
    | cons y r => rw [List.singleton_append, join_cons2, join_one]
  | x :: x' :: r, _ => by
    have := join_append sep hy (x' :: r) (by simp)
    rw [List.cons_append] at this
    rw [List.cons_append, List.cons_append, join_cons2, this, join_cons2]
    simp

theorem bytesOf_ne {I : Nat → Nat} {S : Nat → ByteArray} {n : Nat} (h : 0 < n) : bytesOf I S n ≠ [] := by
  intro e
  have := congrArg List.length e
  simp [bytesOf] at this
  omega

theorem spec_split (I : Nat → Nat) (S : Nat → ByteArray) {n k : Nat} (h0 : 0 < k) (hk : k < n) :
    specOf I S k ++ ⟨#[44]⟩ ++ specOf (fun i => I (k + i)) (fun i => S (k + i)) (n - k) = specOf I S n := by
  apply WideShapes.bytes_inj
  simp only [ByteArray.data_append, Array.toList_append, specOf_data]
  obtain ⟨m, rfl⟩ : ∃ m, n = k + m := ⟨n - k, by omega⟩
  have e : bytesOf I S (k + m) = bytesOf I S k ++ bytesOf (fun i => I (k + i)) (fun i => S (k + i)) m := by
    simp [bytesOf, List.range_add]
  rw [e, join_append _ (bytesOf_ne (by omega)) _ (bytesOf_ne h0), show k + m - k = m by omega]
  simp

theorem spec_all (I : Nat → Nat) (S : Nat → ByteArray) (n : Nat) : specOf (fun i => I (0 + i)) (fun i => S (0 + i)) (n - 0) = specOf I S n := by
  simp

theorem spec_one (I : Nat → Nat) (S : Nat → ByteArray) : specOf I S 1 = ⟨(Lib.decDigits (I 0)).toArray⟩ ++ ⟨#[61]⟩ ++ S 0 := by
  apply WideShapes.bytes_inj
  simp only [ByteArray.data_append, Array.toList_append, specOf_data]
  simp [bytesOf, join_one, entry]

/-- members[:k] -/
theorem slice_to (g : Nat) {n k : Nat} (hk : k ≤ n) (w : World) : (Instr.sliceAt 26 (.slice (some ⟨g, 0, none⟩) n n) none (some (.int .i64 (k : Int))) none).run Tryf.prog w = .ok (.slice (some ⟨g, 0, none⟩) k n) w := by
  rw [run_sliceAt_slice (P := Tryf.prog) w 26 _ _ _ _ Tryf.underlying26, run_slice_h (P := Tryf.prog) w 26 _ n n Tryf.underlying26 .i64 k (by omega) (by omega), size35]
  simp only [Result.andThen, sliced, Int.toNat_natCast]
  simp [Addr.add]

/-- members[k:] -/
theorem slice_from (g : Nat) {n k : Nat} (hk : k ≤ n) : ∃ off, (k < n → off = k * 2) ∧ ∀ w : World, (Instr.sliceAt 26 (.slice (some ⟨g, 0, none⟩) n n) (some (.int .i64 (k : Int))) none none).run Tryf.prog w = .ok (.slice (some ⟨g, off, none⟩) (n - k) (n - k)) w := by
  refine ⟨if n = k then 0 else k * 2, fun h => if_neg (by omega), fun w => ?_⟩
  rw [run_sliceAt_slice (P := Tryf.prog) w 26 _ _ _ _ Tryf.underlying26, run_slice_l (P := Tryf.prog) w 26 _ n n Tryf.underlying26 .i64 k (by omega) (by omega), size35]
  simp only [Result.andThen, sliced, Int.toNat_natCast]
  by_cases e : n = k
  · simp [e]
  · simp [e, Addr.add]
    omega

/-- members[k:k+1] -/
theorem slice_one (g : Nat) {n k : Nat} (hk : k < n) (w : World) : (Instr.sliceAt 26 (.slice (some ⟨g, 0, none⟩) n n) (some (.int .i64 (k : Int))) (some (.int .i64 ((k : Int) + 1))) none).run Tryf.prog w = .ok (.slice (some ⟨g, k * 2, none⟩) 1 (n - k)) w := by
  rw [run_sliceAt_slice (P := Tryf.prog) w 26 _ _ _ _ Tryf.underlying26, run_slice_lh (P := Tryf.prog) w 26 _ n n Tryf.underlying26 .i64 .i64 k (k + 1) (by omega) (by omega) (by omega), size35]
  simp only [Result.andThen, sliced, Int.toNat_natCast]
  rw [if_neg (by omega), show ((k : Int) + 1).toNat - k = 1 by omega]
  simp [Addr.add]
  omega

/-- the members from k on -/
theorem memAt_from {w : World} {g n : Nat} {I : Nat → Nat} {S : Nat → ByteArray} (h : w.rowIs g 35 (n * 2) (memCell I S)) {k off m : Nat} (hm : k + m ≤ n) (ho : 0 < m → off = k * 2) : MemAt w (some ⟨g, off, none⟩) m (fun i => I (k + i)) (fun i => S (k + i)) := by
  refine ⟨g, off, fun i hi => ⟨rfl, ?_, ?_⟩⟩
  · have := h.cell (i := (k + i) * 2) (by omega)
    rw [ho (by omega), show k * 2 + i * 2 = (k + i) * 2 by omega, this]
    simp [memCell]
  · have := h.cell (i := (k + i) * 2 + 1) (by omega)
    rw [ho (by omega), show k * 2 + i * 2 + 1 = (k + i) * 2 + 1 by omega, this]
    have e1 : ((k + i) * 2 + 1) % 2 = 1 := by omega
    have e2 : ((k + i) * 2 + 1) / 2 = k + i := by omega
    simp [memCell, e1, e2]

end Go.Proofs.Qxb6630473aFmt
