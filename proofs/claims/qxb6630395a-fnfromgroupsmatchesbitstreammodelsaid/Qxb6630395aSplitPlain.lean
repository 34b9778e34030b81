/-
  The plain law of the split: over the bits of the accumulator.
-/
import Derived.Test.Qxb6630395aPlain
namespace Go.Proofs.Qxb6630395a

theorem acc_bit (A x p : Nat) : ((A * 32 % 4294967296) ||| x).testBit p = ((decide (p < 32) && (decide (5 ≤ p) && A.testBit (p - 5))) || x.testBit p) := by
  rw [Nat.testBit_or, show (4294967296 : Nat) = 2 ^ 32 from by decide, Nat.testBit_mod_two_pow, show A * 32 = A <<< 5 from by rw [Nat.shiftLeft_eq], Nat.testBit_shiftLeft]

theorem accTo_succ (z : Nat → Nat) (k : Nat) : accTo z (k + 1) = (accTo z k * 32 % 4294967296) ||| z k := rfl

theorem accTo_congr {z z' : Nat → Nat} : ∀ {k : Nat}, (∀ i, i < k → z i = z' i) → accTo z k = accTo z' k
  | 0, _ => rfl
  | k + 1, h => by rw [accTo_succ, accTo_succ, accTo_congr (fun i hi => h i (by omega)), h k (by omega)]

/-- a list of groups followed by another -/
def joined (na : Nat) (za zb : Nat → Nat) : Nat → Nat := fun i => if i < na then za i else zb (i - na)

theorem joined_bits {na : Nat} {za zb : Nat → Nat} : ∀ {m p : Nat}, p < 5 * m → p < 32 → (accTo (joined na za zb) (na + m)).testBit p = (accTo zb m).testBit p
  | 0, p, h, _ => absurd h (by omega)
  | m + 1, p, h, h32 => by
    have e : joined na za zb (na + m) = zb m := by rw [joined, if_neg (by omega), show na + m - na = m by omega]
    rw [show na + (m + 1) = na + m + 1 from rfl, accTo_succ, accTo_succ, acc_bit, acc_bit, e]
    by_cases h5 : 5 ≤ p
    · rw [joined_bits (m := m) (p := p - 5) (by omega) (by omega)]
    · simp [h5]

theorem cut_eq {X Y r n : Nat} (h : ∀ q, q < n → X.testBit (r + q) = Y.testBit (r + q)) : X / 2 ^ r % 2 ^ n = Y / 2 ^ r % 2 ^ n := by
  apply Nat.eq_of_testBit_eq
  intro q
  rw [Nat.testBit_mod_two_pow, Nat.testBit_mod_two_pow, Nat.testBit_div_two_pow, Nat.testBit_div_two_pow]
  by_cases hq : q < n
  · rw [Nat.add_comm q r, h q hq]
  · simp [hq]

theorem fill_lt {na i : Nat} (h : i < 5 * na / 8) : fillAt i + 1 ≤ na := by unfold fillAt; omega
theorem fill_ge (i : Nat) : 8 + 5 * (fillAt i + 1) % 8 ≤ 5 * (fillAt i + 1) := by unfold fillAt; omega
theorem fill_add {na : Nat} (h8 : na % 8 = 0) (i : Nat) : fillAt (5 * na / 8 + i) = na + fillAt i := by unfold fillAt; omega

theorem byte_left {na : Nat} {za zb : Nat → Nat} {i : Nat} (h : i < 5 * na / 8) : byteAt (joined na za zb) i = byteAt za i := by
  have := fill_lt h
  rw [byteAt, byteAt, accTo_congr (z := joined na za zb) (z' := za) (fun j hj => by rw [joined, if_pos (by omega)])]

theorem byte_right {na : Nat} {za zb : Nat → Nat} (h8 : na % 8 = 0) (i : Nat) : byteAt (joined na za zb) (5 * na / 8 + i) = byteAt zb i := by
  rw [byteAt, byteAt, fill_add h8]
  have e : 5 * (na + fillAt i + 1) % 8 = 5 * (fillAt i + 1) % 8 := by omega
  rw [e, show (256 : Nat) = 2 ^ 8 from rfl]
  have hg := fill_ge i
  exact cut_eq (fun q hq => joined_bits (m := fillAt i + 1) (by omega) (by omega))

theorem ok_left {na : Nat} {z : Nat → Nat} (h8 : na % 8 = 0) : okB z na = true := by
  have e : 5 * na % 8 = 0 := by omega
  simp [okB, e, Nat.mod_one]

theorem ok_right {na nb : Nat} {za zb : Nat → Nat} (h8 : na % 8 = 0) : okB (joined na za zb) (na + nb) = okB zb nb := by
  have e : 5 * (na + nb) % 8 = 5 * nb % 8 := by omega
  unfold okB
  rw [e]
  have h : accTo (joined na za zb) (na + nb) / 2 ^ 0 % 2 ^ (5 * nb % 8) = accTo zb nb / 2 ^ 0 % 2 ^ (5 * nb % 8) := cut_eq (fun q hq => joined_bits (by omega) (by omega))
  simp at h
  rw [h]

theorem joined_lt {na nb : Nat} {za zb : Nat → Nat} (ha : ∀ i, i < na → za i < 256) (hb : ∀ i, i < nb → zb i < 256) : ∀ i, i < na + nb → joined na za zb i < 256 := by
  intro i hi
  unfold joined
  split
  · exact ha i ‹_›
  · exact hb _ (by omega)

end Go.Proofs.Qxb6630395a
