/-
  zzBuild and the guards.
-/
import Derived.Test.Qxb6630473aFmtView
namespace Go.Proofs.Qxb6630473aFmt
open Go.RowKit

/-- the row of Members behind k rounds -/
def memTo (I : Nat → Nat) (S : Nat → ByteArray) (k j : Nat) : Value := if j < k * 2 then memCell I S j else if j % 2 = 0 then .int .u64 0 else .string ⟨#[]⟩

theorem made_mem (n j : Nat) (h : j < n * 2) : (madeCells (Value.agg #[.int .u64 0, .string ⟨#[]⟩]).cells (n * 2)).toList.getD j undef = if j % 2 = 0 then .int .u64 0 else .string ⟨#[]⟩ := by
  have hj : j < n * 2 := h
  rw [List.getD_eq_getElem?_getD, Array.getElem?_toList]
  have e1 : (Array.range (n * 2))[j]? = some j := by simp [hj]
  simp only [madeCells, Array.getElem?_map, e1, Option.map_some, Option.getD_some]
  show (#[Value.int .u64 0, Value.string ⟨#[]⟩] : Array Value)[j % 2]! = _
  rcases Nat.mod_two_eq_zero_or_one j with e | e <;> simp [e]

theorem memTo_step (I : Nat → Nat) (S : Nat → ByteArray) (k j : Nat) : (if j = k * 2 + 1 then Value.string (S k) else if j = k * 2 then Value.int .u64 (I k : Int) else memTo I S k j) = memTo I S (k + 1) j := by
  by_cases e1 : j = k * 2 + 1
  · subst e1
    have h1 : (k * 2 + 1) % 2 = 1 := by omega
    have h2 : (k * 2 + 1) / 2 = k := by omega
    rw [if_pos rfl, memTo, if_pos (by omega), memCell, h1, h2]
    simp
  · rw [if_neg e1]
    by_cases e2 : j = k * 2
    · subst e2
      rw [if_pos rfl, memTo, if_pos (by omega), memCell]
      simp
    · rw [if_neg e2]
      unfold memTo
      by_cases h : j < k * 2
      · rw [if_pos h, if_pos (by omega)]
      · have h' : ¬ j < (k + 1) * 2 := by omega
        simp only [if_neg h, if_neg h']

set_option maxHeartbeats 1000000 in
theorem build_any (a1 : Option Addr) (n c1 : Nat) (I : Nat → Nat) (a2 : Option Addr) (c2 : Nat) (S : Nat → ByteArray) (w : World) (h1 : IdsAt w a1 n I) (h2 : StrsAt w a2 n S) (hmax : n ≤ 65536) :
    Calls Tryf.prog 7 #[.slice a1 n c1, .slice a2 n c2] w fun e w' => e = .returned (.slice (some ⟨w.heap.size, 0, none⟩) n n) ∧ w'.rowIs w.heap.size 35 (n * 2) (memCell I S) ∧ Below w.heap.size w w' := by
  have hlt1 := h1.lt
  have hlt2 := h2.lt
  obtain ⟨_, _, b1, o1, hc1⟩ := h1
  obtain ⟨_, _, b2, o2, hc2⟩ := h2
  obtain ⟨i0, hi, hz0, hz1, hz2⟩ := info_parts info35
  go_enter Tryf.func7, Tryf.ntmps7
  go_wp2_with (at_make; refine wpList_make_full _ rfl _ _ 26 rfl w.heap.size 35 i0 (.agg #[.int .u64 0, .string ⟨#[]⟩]) 2 Tryf.underlying26 hi hz0 hz1 _ _ _ _ n rfl rfl rfl rfl (by rw [hz2]; omega) (by unfold maxLen; omega) (Nat.le_refl _) ?_; intro w0 hown0 hgrow0)
  have hrow0 := rowIs_of_owns hown0
  go_loopw [6] (fun i wr => ∃ k : Nat, k ≤ n ∧ i = .int .i64 k ∧ wr.rowIs w.heap.size 35 (n * 2) (memTo I S k) ∧ Below w.heap.size w wr) (fun i _ => n - (intOf i).toNat)
  case atStart => exact ⟨0, Nat.zero_le _, rfl, hrow0.congr (fun j hj => by rw [made_mem n j hj]; simp [memTo]), (Below.refl _ _).grown hgrow0 (Nat.le_refl _) (fun k h => by cases h)⟩
  case round =>
    obtain ⟨k, hk, rfl, hrow, hbel⟩ := hrel
    by_cases hlt : k < n
    · obtain ⟨ha1, hK1⟩ := hc1 k hlt
      obtain ⟨ha2, hK2⟩ := hc2 k hlt
      have hblk1 : b1 < w.heap.size := hlt1 _ ha1 (by omega)
      have hblk2 : b2 < w.heap.size := hlt2 _ ha2 (by omega)
      have hK1' : wr.cell? ⟨b1, o1 + k, none⟩ = some (.int .u64 (I k : Int)) := (hbel.cell (p := ⟨b1, _, none⟩) hblk1).trans hK1
      have hK2' : wr.cell? ⟨b2, o2 + k, none⟩ = some (.string (S k)) := (hbel.cell (p := ⟨b2, _, none⟩) hblk2).trans hK2
      have hix1 := fun w => indexAt_one (P := Tryf.prog) (cap := c1) (b := b1) (off := o1) 22 Tryf.underlying22 size30 k hlt ha1 w
      have hix2 := fun w => indexAt_one (P := Tryf.prog) (cap := c2) (b := b2) (off := o2) 23 Tryf.underlying23 size9 k hlt ha2 w
      have hcA : wr.cell? ⟨w.heap.size, k * 2, none⟩ = some _ := hrow.cell (i := k * 2) (by omega)
      have hcB : wr.cell? ⟨w.heap.size, k * 2 + 1, none⟩ = some _ := hrow.cell (i := k * 2 + 1) (by omega)
      have hfA := hrow.frozen (k * 2)
      have hfB := hrow.frozen (k * 2 + 1)
      clear ha1 ha2 hc1 hc2 hK1 hK2
      go_wp2
      go_region
      all_goals go_wp2
      all_goals go_roundw
      case rel =>
        refine ⟨k + 1, by omega, by go_num, (((hrow.set _ _).set _ _).drew).congr (fun j hj => ?_), ((hbel.setCell (Nat.le_refl _) _).setCell (Nat.le_refl _) _).drew⟩
        exact memTo_step I S k j
      case measure => simp [intOf]; omega
    · obtain rfl : k = n := by omega
      go_wp2
      go_ret
      refine ⟨rfl, hrow.congr (fun j hj => by rw [memTo, if_pos hj]), hbel⟩

end Go.Proofs.Qxb6630473aFmt
