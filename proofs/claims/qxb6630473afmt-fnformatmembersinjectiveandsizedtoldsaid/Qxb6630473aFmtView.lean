/-
  Slices of uint64, of strings and of Members, as the walks see them.
-/
import Derived.Test.Qxb6630473aFmtText
import Derived.Deep.OwnRows
namespace Go.Proofs.Qxb6630473aFmt
open Go.RowKit

def IdsAt (w : World) (a : Option Addr) (n : Nat) (I : Nat → Nat) : Prop :=
  n ≤ maxLen ∧ (∀ i, i < n → I i < 18446744073709551616) ∧ ∃ b off, ∀ i, i < n → a = some ⟨b, off, none⟩ ∧ w.cell? ⟨b, off + i, none⟩ = some (.int .u64 (I i : Int))

def StrsAt (w : World) (a : Option Addr) (n : Nat) (S : Nat → ByteArray) : Prop :=
  n ≤ maxLen ∧ (∀ i, i < n → (S i).size ≤ maxLen) ∧ ∃ b off, ∀ i, i < n → a = some ⟨b, off, none⟩ ∧ w.cell? ⟨b, off + i, none⟩ = some (.string (S i))

def MemAt (w : World) (a : Option Addr) (n : Nat) (I : Nat → Nat) (S : Nat → ByteArray) : Prop :=
  ∃ b off, ∀ i, i < n → a = some ⟨b, off, none⟩ ∧ w.cell? ⟨b, off + i * 2, none⟩ = some (.int .u64 (I i : Int)) ∧ w.cell? ⟨b, off + i * 2 + 1, none⟩ = some (.string (S i))

theorem indexAt_one {P : Program} {a : Option Addr} {len cap b off : Nat} (t : TypeId) (hu : P.underlying t = some (.slice (P.elem t))) (hs : ∀ w, (sizeOf (P.elem t)).run P w = .ok 1 w) (i : Nat) (hi : i < len) (ha : a = some ⟨b, off, none⟩) (w : World) :
    (Instr.indexAt t (.slice a len cap) (.int .i64 (i : Int))).run P w = .ok (.pointer (some ⟨b, off + i, none⟩)) w := by
  subst ha
  rw [run_indexAt_slice (P := P) w t _ _ _ _ _ hu]
  rw [if_pos ⟨by omega, by omega⟩, hs]
  simp [Result.andThen, Addr.add]

theorem indexAt_two {P : Program} {a : Option Addr} {len cap b off : Nat} (t : TypeId) (hu : P.underlying t = some (.slice (P.elem t))) (hs : ∀ w, (sizeOf (P.elem t)).run P w = .ok 2 w) (i : Nat) (hi : i < len) (ha : a = some ⟨b, off, none⟩) (w : World) :
    (Instr.indexAt t (.slice a len cap) (.int .i64 (i : Int))).run P w = .ok (.pointer (some ⟨b, off + i * 2, none⟩)) w := by
  subst ha
  rw [run_indexAt_slice (P := P) w t _ _ _ _ _ hu]
  rw [if_pos ⟨by omega, by omega⟩, hs]
  simp [Result.andThen, Addr.add]

theorem size30 : ∀ w, (sizeOf (Tryf.prog.elem 22)).run Tryf.prog w = .ok 1 w := fun _ => by kernel_rfl
theorem size9 : ∀ w, (sizeOf (Tryf.prog.elem 23)).run Tryf.prog w = .ok 1 w := fun _ => by kernel_rfl
theorem size35 : ∀ w, (sizeOf (Tryf.prog.elem 26)).run Tryf.prog w = .ok 2 w := fun _ => by kernel_rfl
theorem info35 : (Tryf.prog.info? 35).map (fun i => (i.zero, i.size, i.bytes)) = some (some (.agg #[.int .u64 0, .string ⟨#[]⟩]), 2, 24) := by kernel_rfl
theorem info9 : (Tryf.prog.info? 9).map (fun i => (i.zero, i.size, i.bytes)) = some (some (.string ⟨#[]⟩), 1, 16) := by kernel_rfl

theorem IdsAt.lt {w : World} {a : Option Addr} {n : Nat} {I : Nat → Nat} (h : IdsAt w a n I) : ∀ x, a = some x → 0 < n → x.block < w.heap.size := by
  obtain ⟨h1, h2, b, off, hc⟩ := h
  intro x hx hl
  obtain ⟨e, c1⟩ := hc 0 hl
  rw [e] at hx
  cases hx
  exact block_lt_of_cell c1
theorem StrsAt.lt {w : World} {a : Option Addr} {n : Nat} {S : Nat → ByteArray} (h : StrsAt w a n S) : ∀ x, a = some x → 0 < n → x.block < w.heap.size := by
  obtain ⟨h1, h2, b, off, hc⟩ := h
  intro x hx hl
  obtain ⟨e, c1⟩ := hc 0 hl
  rw [e] at hx
  cases hx
  exact block_lt_of_cell c1
theorem MemAt.lt {w : World} {a : Option Addr} {n : Nat} {I : Nat → Nat} {S : Nat → ByteArray} (h : MemAt w a n I S) : ∀ x, a = some x → 0 < n → x.block < w.heap.size := by
  obtain ⟨b, off, hc⟩ := h
  intro x hx hl
  obtain ⟨e, c1, _⟩ := hc 0 hl
  rw [e] at hx
  cases hx
  exact block_lt_of_cell c1

theorem IdsAt.below {w w' : World} {a : Option Addr} {n : Nat} {I : Nat → Nat} {B : Nat} (h : IdsAt w a n I) (hb : Below B w w') (hB : ∀ x, a = some x → 0 < n → x.block < B) : IdsAt w' a n I := by
  obtain ⟨h1, h2, b, off, hc⟩ := h
  refine ⟨h1, h2, b, off, fun i hi => ?_⟩
  obtain ⟨e, c1⟩ := hc i hi
  have hlt : b < B := hB _ e (by omega)
  exact ⟨e, (hb.cell (p := ⟨b, _, none⟩) hlt).trans c1⟩
theorem StrsAt.below {w w' : World} {a : Option Addr} {n : Nat} {S : Nat → ByteArray} {B : Nat} (h : StrsAt w a n S) (hb : Below B w w') (hB : ∀ x, a = some x → 0 < n → x.block < B) : StrsAt w' a n S := by
  obtain ⟨h1, h2, b, off, hc⟩ := h
  refine ⟨h1, h2, b, off, fun i hi => ?_⟩
  obtain ⟨e, c1⟩ := hc i hi
  have hlt : b < B := hB _ e (by omega)
  exact ⟨e, (hb.cell (p := ⟨b, _, none⟩) hlt).trans c1⟩
theorem MemAt.below {w w' : World} {a : Option Addr} {n : Nat} {I : Nat → Nat} {S : Nat → ByteArray} {B : Nat} (h : MemAt w a n I S) (hb : Below B w w') (hB : ∀ x, a = some x → 0 < n → x.block < B) : MemAt w' a n I S := by
  obtain ⟨b, off, hc⟩ := h
  refine ⟨b, off, fun i hi => ?_⟩
  obtain ⟨e, c1, c2⟩ := hc i hi
  have hlt : b < B := hB _ e (by omega)
  exact ⟨e, (hb.cell (p := ⟨b, _, none⟩) hlt).trans c1, (hb.cell (p := ⟨b, _, none⟩) hlt).trans c2⟩

/-- the cells of a row of Members -/
def memCell (I : Nat → Nat) (S : Nat → ByteArray) (j : Nat) : Value := if j % 2 = 0 then .int .u64 (I (j / 2) : Int) else .string (S (j / 2))

theorem rowIs_of_owns {w : World} {base g n : Nat} {e : TypeId} {size : Nat} {xs : List Value} (h : w.ownsRow base e size (.slice (some ⟨g, 0, none⟩) n n) n xs) : w.rowIs g e (n * size) (fun j => xs.getD j undef) := by
  have hl := h.1
  rcases h.2 with ⟨h', _⟩ | ⟨g', cap', cur, h', hb, hg, hnc, hcm, hcs, htake⟩
  · simp at h'
  · simp only [Value.slice.injEq, Option.some.injEq, Addr.mk.injEq, and_true, true_and] at h'
    obtain ⟨rfl, rfl⟩ := h'
    have e : cur.toList = xs := by rw [← htake, List.take_of_length_le (by simp; omega)]
    refine ⟨cur, hg, hcs, fun i hi => ?_⟩
    have hi' : i < xs.length := by omega
    rw [← Array.getElem?_toList, e, List.getElem?_eq_getElem hi']
    simp [List.getD, hi']

theorem memAt_of_row {w : World} {g n : Nat} {I : Nat → Nat} {S : Nat → ByteArray} (h : w.rowIs g 35 (n * 2) (memCell I S)) : MemAt w (some ⟨g, 0, none⟩) n I S := by
  refine ⟨g, 0, fun i hi => ⟨rfl, ?_, ?_⟩⟩
  · have := h.cell (i := i * 2) (by omega)
    rw [Nat.zero_add, this]
    simp [memCell]
  · have := h.cell (i := i * 2 + 1) (by omega)
    rw [Nat.zero_add, this]
    have e1 : (i * 2 + 1) % 2 = 1 := by omega
    have e2 : (i * 2 + 1) / 2 = i := by omega
    simp [memCell, e1, e2]

end Go.Proofs.Qxb6630473aFmt
