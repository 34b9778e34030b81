/-
  From a slice of KV as the form reads it to 'KVs'.
-/
import Derived.Test.Qxb6630350aKV
import Derived.Deep.SlicePairs
namespace Go.Proofs.Qxb6630350a
open Go.ChangeShapes Go.WideShapes Go.Deep

theorem kvs_of {H : Type} {enc : TypeId × Value → H} {W : World} {sp : Nat → Bool} {held : Bool} {a : Option Addr} {len cap : Nat} {d : DataW H} {p : List MemPlace}
    (h : DataW.Trod enc Try.prog W 0 sp held 22 (.slice a len cap) d p) : ∃ K V, KVs W a len cap K V := by
  obtain ⟨fuel, hf⟩ := h
  rcases open_slice_pairs Try.underlying22 Try.underlying33 (by kernel_rfl) rfl rfl (by kernel_rfl) (by kernel_rfl) hf with ⟨hcs, _⟩ | ⟨x, l, c, m, n, V0, V1, D0, D1, P0, P1, hcs, _, hl, hm, hmm, _, hc⟩
  · simp [Value.cells] at hcs
    obtain ⟨rfl, rfl, rfl⟩ := hcs
    exact ⟨fun _ => ByteArray.empty, fun _ => ByteArray.empty, Nat.zero_le _, fun i hi => absurd hi (Nat.not_lt_zero _), 0, 0, fun i hi => absurd hi (Nat.not_lt_zero _)⟩
  · simp [Value.cells] at hcs
    obtain ⟨rfl, rfl, rfl⟩ := hcs
    have hlm : len ≤ m := by rw [hmm]; split <;> omega
    have each : ∀ i, i < len → ∃ q : ByteArray × ByteArray, V0 i = .string q.1 ∧ V1 i = .string q.2 ∧ q.1.size ≤ maxLen ∧ q.2.size ≤ maxLen := by
      intro i hi
      obtain ⟨_, _, t0, t1⟩ := hc i (by omega)
      obtain ⟨s0, e0, _, z0⟩ := DataW.trod_string Try.underlying9 t0
      obtain ⟨s1, e1, _, z1⟩ := DataW.trod_string Try.underlying9 t1
      exact ⟨(s0, s1), by simpa using e0, by simpa using e1, z0, z1⟩
    obtain ⟨q, hq⟩ := choose_lt (α := ByteArray × ByteArray) each
    refine ⟨fun i => (q i).1, fun i => (q i).2, by omega, fun i hi => ⟨(hq i hi).2.2.1, (hq i hi).2.2.2⟩, x.block, x.off, fun i hi => ?_⟩
    obtain ⟨c0, c1, _, _⟩ := hc i (by omega)
    rw [(hq i hi).1] at c0
    rw [(hq i hi).2.1] at c1
    have hz := (hc 0 (by omega)).1
    obtain ⟨bk, of, ix⟩ := x
    have hix : ix = none := by simpa [Addr.add] using World.cell?_spot hz
    subst hix
    rw [add_plain] at c0 c1
    exact ⟨rfl, c0, by rw [Nat.add_assoc]; exact c1⟩

end Go.Proofs.Qxb6630350a
