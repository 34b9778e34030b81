/-
  zzUtoa.
-/
import Derived.Test.Qxb6630473aFmtFormat
import Derived.Laws.BytesArg
namespace Go.Proofs.Qxb6630473aFmt
open Go.RowKit

/-- the digits of u; none for 0 -/
def decN (u : Nat) : List UInt8 := if u = 0 then [] else Lib.decDigits u

theorem decN_step {u : Nat} (h : u ≠ 0) : decN u = decN (u / 10) ++ [UInt8.ofNat (48 + u % 10)] := by
  unfold decN
  rw [if_neg h]
  by_cases h10 : u < 10
  · rw [if_pos (by omega), Lib.decDigits, dif_pos h10, Nat.mod_eq_of_lt h10]
    rfl
  · rw [if_neg (by omega), Lib.decDigits, dif_neg h10]

theorem pow_bound {d v : Nat} (h : 10 ^ d ≤ v) (hv : v < 18446744073709551616) : d < 20 := by
  rcases Nat.lt_or_ge d 20 with h' | h'
  · exact h'
  · have : 10 ^ 20 ≤ 10 ^ d := Nat.pow_le_pow_right (by decide) h'
    have h3 : (10 : Nat) ^ 20 = 100000000000000000000 := by decide
    omega

theorem pow_step {u v d : Nat} (h : u * 10 ^ d ≤ v) : u / 10 * 10 ^ (d + 1) ≤ v := by
  have h1 : u / 10 * 10 ≤ u := Nat.div_mul_le_self u 10
  calc u / 10 * 10 ^ (d + 1) = u / 10 * 10 * 10 ^ d := by rw [Nat.pow_succ, Nat.mul_comm (10 ^ d) 10, ← Nat.mul_assoc]
    _ ≤ u * 10 ^ d := Nat.mul_le_mul_right _ h1
    _ ≤ v := h

/-- the cells from i on hold the bytes of L -/
def Holds (f : Nat → Value) (i : Nat) (L : List UInt8) : Prop := ∀ j, j < L.length → f (i + j) = .int .u8 ((L.getD j 0).toNat : Int)

theorem holds_step {f : Nat → Value} {i : Nat} {L : List UInt8} {x : UInt8} (h : Holds f (i + 1) L) : Holds (fun j => if j = i then .int .u8 (x.toNat : Int) else f j) i (x :: L) := by
  intro j hj
  cases j with
  | zero => simp
  | succ j =>
    have := h j (by simpa using hj)
    have e : ¬ i + (j + 1) = i := by omega
    simp only [if_neg e]
    rw [show i + (j + 1) = i + 1 + j by omega, this]
    simp

theorem digit_val (u : Nat) : ((UInt8.ofNat (48 + u % 10)).toNat : Int) = 48 + (u : Int) % 10 := by
  rw [UInt8.toNat_ofNat', Nat.mod_eq_of_lt (by omega)]
  simp

set_option maxHeartbeats 1000000 in
set_option maxRecDepth 100000 in
theorem utoa_any (v : Nat) (w : World) (hv : v < 18446744073709551616) :
    Calls Tryf.prog 9 #[.int .u64 (v : Int)] w fun e w' => e = .returned (.string ⟨(Lib.decDigits v).toArray⟩) ∧ Below w.heap.size w w' := by
  by_cases h0 : v = 0
  · subst h0
    go_enter Tryf.func9, Tryf.ntmps9
    go_wp2
    go_ret
    exact ⟨by rw [Lib.decDigits, dif_pos (by decide)]; rfl, Below.refl _ _⟩
  · have t0 : ((v : Int) == 0) = false := by rw [beq_eq_false_iff_ne]; omega
    go_enter Tryf.func9, Tryf.ntmps9
    go_wp2
    go_loopw [0, 4] (fun s i wr => ∃ (u i' : Nat) (L : List UInt8) (f : Nat → Value), s = .int .u64 u ∧ u < 18446744073709551616 ∧ i = .int .i64 i' ∧ i' ≤ 20 ∧ Hid (i' + L.length = 20) ∧ Hid (decN u ++ L = Lib.decDigits v) ∧ Hid (u * 10 ^ L.length ≤ v) ∧ wr.rowIs w.heap.size 38 20 f ∧ Hid (Holds f i' L) ∧ Below w.heap.size w wr) (fun s _ _ => (intOf s).toNat)
    case atStart =>
      refine ⟨v, 20, [], fun _ => .int .u8 0, rfl, hv, rfl, by decide, rfl, ?_, ?_, ?_, fun j hj => absurd hj (Nat.not_lt_zero _), (Below.refl _ _).alloc (Nat.le_refl _) _⟩
      · show decN v ++ [] = Lib.decDigits v
        rw [decN, if_neg h0, List.append_nil]
      · show v * 10 ^ 0 ≤ v
        simp
      · exact World.rowIs_alloc w _ 38 _ (fun i hi => by
          match i, hi with
          | 0, _ | 1, _ | 2, _ | 3, _ | 4, _ | 5, _ | 6, _ | 7, _ | 8, _ | 9, _ | 10, _ | 11, _ | 12, _ | 13, _ | 14, _ | 15, _ | 16, _ | 17, _ | 18, _ | 19, _ => rfl
          | _ + 20, h => exact absurd h (by simp))
    case round =>
      obtain ⟨u, i, L, f, rfl, hu, rfl, hi20, hiL, hdec, hpow, hrow, hH, hbel⟩ := hrel
      by_cases hu0 : u = 0
      · subst hu0
        have hL : L = Lib.decDigits v := by have := hdec.out; simpa [decN] using this
        have hl20 := hiL.out
        have hconv := run_convert_bytes_arg (P := Tryf.prog) wr 39 5 (by rfl) (by rfl) w.heap.size i (20 - i) (20 - i) (L.map fun x => (x.toNat : Int)) (by simp; omega) (fun j hj => by
          have e1 := hrow.cell (i := i + j) (by omega)
          rw [e1, hH.out j (by omega)]
          simp [List.getD, show j < L.length by omega]) 9 (by rfl)
        have hne : L.length ≠ 0 := by
          rw [hL]; rw [Lib.decDigits_length]; rw [Lib.nDigits]; split <;> omega
        have hslice : ∀ wq : World, (Instr.sliceAt 38 (.pointer (some ⟨w.heap.size, 0, none⟩)) (some (.int .i64 (i : Int))) none none).run Tryf.prog wq = .ok (.slice (some ⟨w.heap.size, i, none⟩) (20 - i) (20 - i)) wq := by
          intro wq
          have e20 : Tryf.prog.arrayLen 38 = 20 := by kernel_rfl
          rw [run_sliceAt_array_l (P := Tryf.prog) wq 38 ⟨w.heap.size, 0, none⟩ (by kernel_rfl) .i64 i (by omega) (by rw [e20]; omega), e20, show (sizeOf (Tryf.prog.elem 38)).run Tryf.prog wq = .ok 1 wq by kernel_rfl]
          simp only [Result.andThen, slicedAt, Int.toNat_natCast]
          rw [if_neg (by omega)]
          simp [Addr.add]
          omega
        have es : strOfNums (L.map fun x => (x.toNat : Int)) = ⟨(Lib.decDigits v).toArray⟩ := by
          apply WideShapes.bytes_inj
          rw [strOfNums_data, List.map_map, hL]
          rw [List.map_congr_left (g := id) (fun x _ => by simp)]
          simp
        rw [es] at hconv
        clear hl20 hne
        go_wp2
        go_ret
        exact ⟨rfl, hbel⟩
      · have hd : L.length < 20 := pow_bound (Nat.le_trans (Nat.le_mul_of_pos_left _ (by omega)) hpow.out) hv
        have hi1 := hiL.out
        cases i with
        | zero => omega
        | succ i =>
          have hcA : wr.cell? ⟨w.heap.size, i, none⟩ = some _ := hrow.cell (i := i) (by omega)
          have hfA := hrow.frozen i
          have hup : 0 < u := by omega
          clear hi1 hd
          go_wp2
          go_roundw
          · refine ⟨u / 10, i, UInt8.ofNat (48 + u % 10) :: L, _, by simp, by omega, rfl, by omega, ?_, ?_, ?_, hrow.set i _, ?_, ?_⟩
            · have := hiL.out
              show i + (L.length + 1) = 20
              omega
            · have := hdec.out
              rw [decN_step hu0] at this
              show decN (u / 10) ++ (UInt8.ofNat (48 + u % 10) :: L) = Lib.decDigits v
              rw [← this]; simp
            · exact pow_step hpow.out
            · have := holds_step (x := UInt8.ofNat (48 + u % 10)) hH.out
              rw [digit_val] at this
              exact this
            · exact hbel.setCell (Nat.le_refl _) _
          · simp only [intOf]
            omega

end Go.Proofs.Qxb6630473aFmt
