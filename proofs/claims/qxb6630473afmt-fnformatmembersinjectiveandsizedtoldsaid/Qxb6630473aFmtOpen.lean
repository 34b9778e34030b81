/-
  From the slices as the form reads them to 'IdsAt', 'StrsAt'.
-/
import Derived.Test.Qxb6630473aFmtView
import Derived.SliceStrings
import Derived.ChangeSlices
import Derived.Deep.SlicePairs
namespace Go.Proofs.Qxb6630473aFmt
open Go.ChangeShapes Go.WideShapes Go.Deep

theorem ids_of {H : Type} {enc : TypeId × Value → H} {W : World} {sp : Nat → Bool} {held : Bool} {a : Option Addr} {len cap : Nat} {d : DataW H} {p : List MemPlace}
    (h : DataW.Trod enc Tryf.prog W 0 sp held 22 (.slice a len cap) d p) : ∃ I, IdsAt W a len I := by
  obtain ⟨fuel, hf⟩ := h
  rcases open_ints Tryf.underlying22 Tryf.underlying30 (by kernel_rfl) hf with ⟨hcs, _⟩ | ⟨x, l, c, zs, hcs, _, hl, hm, hz, _, hc, hwf⟩
  · simp [Value.cells] at hcs
    obtain ⟨rfl, rfl, rfl⟩ := hcs
    exact ⟨fun _ => 0, Nat.zero_le _, fun i hi => absurd hi (Nat.not_lt_zero _), 0, 0, fun i hi => absurd hi (Nat.not_lt_zero _)⟩
  · simp [Value.cells] at hcs
    obtain ⟨rfl, rfl, rfl⟩ := hcs
    have hlm : len ≤ zs.length := by rw [hz]; split <;> omega
    have hb : ∀ i, i < len → 0 ≤ zs.getD i 0 ∧ zs.getD i 0 ≤ 18446744073709551615 := fun i hi => by
      have hlt : i < zs.length := by omega
      have := hwf _ (List.getElem_mem hlt)
      rw [List.getD_eq_getElem?_getD, List.getElem?_eq_getElem hlt, Option.getD_some]
      simp only [Lit.wf, Bool.and_eq_true, decide_eq_true_eq] at this
      have hmin : IntKind.u64.min = 0 := rfl
      have hmax : IntKind.u64.max = 18446744073709551615 := rfl
      omega
    refine ⟨fun i => (zs.getD i 0).toNat, by omega, fun i hi => by have := hb i hi; show (zs.getD i 0).toNat < 18446744073709551616; omega, x.block, x.off, fun i hi => ?_⟩
    have h0 := hc 0 (by omega)
    have hi' := hc i (by omega)
    obtain ⟨bk, of, ix⟩ := x
    have hix : ix = none := by simpa [Addr.add] using World.cell?_spot h0
    subst hix
    rw [add_plain] at hi'
    refine ⟨rfl, ?_⟩
    have := hb i hi
    show W.cell? ⟨bk, of + i, none⟩ = some (.int .u64 (((zs.getD i 0).toNat : Nat) : Int))
    rw [hi', Int.toNat_of_nonneg this.1]

theorem strs_of {H : Type} {enc : TypeId × Value → H} {W : World} {sp : Nat → Bool} {held : Bool} {a : Option Addr} {len cap : Nat} {d : DataW H} {p : List MemPlace}
    (h : DataW.Trod enc Tryf.prog W 0 sp held 23 (.slice a len cap) d p) : ∃ S, StrsAt W a len S := by
  obtain ⟨fuel, hf⟩ := h
  rcases open_strings Tryf.underlying23 Tryf.underlying9 (by kernel_rfl) hf with ⟨hcs, _⟩ | ⟨x, l, c, zs, hcs, _, hl, hm, hz, _, hc, hwf⟩
  · simp [Value.cells] at hcs
    obtain ⟨rfl, rfl, rfl⟩ := hcs
    exact ⟨fun _ => ByteArray.empty, Nat.zero_le _, fun i hi => absurd hi (Nat.not_lt_zero _), 0, 0, fun i hi => absurd hi (Nat.not_lt_zero _)⟩
  · simp [Value.cells] at hcs
    obtain ⟨rfl, rfl, rfl⟩ := hcs
    have hlm : len ≤ zs.length := by rw [hz]; split <;> omega
    refine ⟨fun i => zs.getD i ByteArray.empty, by omega, fun i hi => ?_, x.block, x.off, fun i hi => ?_⟩
    · have hlt : i < zs.length := by omega
      have := hwf _ (List.getElem_mem hlt)
      show (zs.getD i ByteArray.empty).size ≤ maxLen
      rw [List.getD_eq_getElem?_getD, List.getElem?_eq_getElem hlt, Option.getD_some]
      exact this
    · have h0 := hc 0 (by omega)
      have hi' := hc i (by omega)
      obtain ⟨bk, of, ix⟩ := x
      have hix : ix = none := by simpa [Addr.add] using World.cell?_spot h0
      subst hix
      rw [add_plain] at hi'
      exact ⟨rfl, hi'⟩

end Go.Proofs.Qxb6630473aFmt
