/-
  The plain law of the bit-stream model.
-/
import Derived.Test.Qxb6630395aSplitPlain
namespace Go.Proofs.Qxb6630395a

/-- bit p of the accumulator behind m groups -/
theorem acc_bits {z : Nat → Nat} : ∀ {m p : Nat}, (∀ i, i < m → z i < 256) → p < 5 * m → p < 32 → (accTo z m).testBit p = ((z (m - 1 - p / 5)).testBit (p % 5) || (decide (1 ≤ p / 5) && (z (m - p / 5)).testBit (p % 5 + 5)))
  | 0, p, _, h, _ => absurd h (by omega)
  | m + 1, p, hz, h, h32 => by
    rw [accTo_succ, acc_bit]
    by_cases h5 : 5 ≤ p
    · rw [acc_bits (m := m) (p := p - 5) (fun i hi => hz i (by omega)) (by omega) (by omega)]
      have e1 : m - 1 - (p - 5) / 5 = m + 1 - 1 - p / 5 := by omega
      have e2 : (p - 5) % 5 = p % 5 := by omega
      have e3 : m - (p - 5) / 5 = m + 1 - p / 5 := by omega
      rw [e1, e2, e3]
      have h1 : 1 ≤ p / 5 := by omega
      by_cases h10 : 10 ≤ p
      · have hb : (z m).testBit p = false := Nat.testBit_lt_two_pow (Nat.lt_of_lt_of_le (hz m (by omega)) (Nat.pow_le_pow_right (n := 2) (by decide) (by omega : 8 ≤ p)))
        have h2 : 1 ≤ (p - 5) / 5 := by omega
        rw [hb]
        simp [h32, h5, h1, h2]
      · have h2 : ¬ 1 ≤ (p - 5) / 5 := by omega
        have e4 : m + 1 - p / 5 = m := by omega
        have e5 : p % 5 + 5 = p := by omega
        rw [e4, e5]
        simp [h32, h5, h1, h2]
    · have e1 : p / 5 = 0 := by omega
      have e2 : p % 5 = p := by omega
      rw [e1, e2]
      simp [h5]

/-- bit k (from the top) of byte i -/
theorem byte_bit {z : Nat → Nat} {n i k : Nat} (hz : ∀ i, i < n → z i < 256) (hi : i < 5 * n / 8) (hk : k < 8) :
    (byteAt z i).testBit (7 - k) = ((z ((8 * i + k) / 5)).testBit (4 - (8 * i + k) % 5) || (decide ((8 * i + k) / 5 + 1 ≤ fillAt i) && (z ((8 * i + k) / 5 + 1)).testBit (9 - (8 * i + k) % 5))) := by
  have hf := fill_lt hi
  have hg := fill_ge i
  have hfe : 5 * (fillAt i + 1) = 8 * (i + 1) + 5 * (fillAt i + 1) % 8 := by unfold fillAt; omega
  rw [byteAt, show (256 : Nat) = 2 ^ 8 from rfl, Nat.testBit_mod_two_pow, Nat.testBit_div_two_pow]
  rw [acc_bits (fun j hj => hz j (by omega)) (by omega) (by omega)]
  have e1 : (7 - k + 5 * (fillAt i + 1) % 8) / 5 = fillAt i - (8 * i + k) / 5 := by omega
  have e2 : (7 - k + 5 * (fillAt i + 1) % 8) % 5 = 4 - (8 * i + k) % 5 := by omega
  have e3 : fillAt i + 1 - 1 - (fillAt i - (8 * i + k) / 5) = (8 * i + k) / 5 := by omega
  rw [e1, e2, e3]
  have e4 : 4 - (8 * i + k) % 5 + 5 = 9 - (8 * i + k) % 5 := by omega
  have hd : decide (7 - k < 8) = true := by simp; omega
  rw [e4, hd, Bool.true_and]
  by_cases hc : (8 * i + k) / 5 + 1 ≤ fillAt i
  · have e5 : fillAt i + 1 - (fillAt i - (8 * i + k) / 5) = (8 * i + k) / 5 + 1 := by omega
    have h1 : 1 ≤ fillAt i - (8 * i + k) / 5 := by omega
    rw [e5]
    simp [hc, h1]
  · have h1 : ¬ 1 ≤ fillAt i - (8 * i + k) / 5 := by omega
    simp [hc, h1]

/-- the model's bit, as a number -/
def modelBit (z : Nat → Nat) (i k : Nat) : Nat :=
  if 2 ≤ (8 * i + k) % 5 ∧ (8 * i + k) / 5 + 1 ≤ fillAt i then (z ((8 * i + k) / 5) / 2 ^ (4 - (8 * i + k) % 5) % 2) ||| (z ((8 * i + k) / 5 + 1) / 2 ^ (9 - (8 * i + k) % 5) % 2)
  else z ((8 * i + k) / 5) / 2 ^ (4 - (8 * i + k) % 5) % 2

theorem or_toNat (a b : Bool) : (a || b).toNat = a.toNat ||| b.toNat := by cases a <;> cases b <;> rfl

theorem modelBit_is {z : Nat → Nat} {n i k : Nat} (hz : ∀ i, i < n → z i < 256) (hi : i < 5 * n / 8) (hk : k < 8) : modelBit z i k = byteAt z i / 2 ^ (7 - k) % 2 := by
  have hf := fill_lt hi
  rw [← Nat.toNat_testBit, byte_bit hz hi hk, or_toNat]
  unfold modelBit
  rw [← Nat.toNat_testBit, ← Nat.toNat_testBit]
  by_cases hc : (8 * i + k) / 5 + 1 ≤ fillAt i
  · by_cases hs : 2 ≤ (8 * i + k) % 5
    · simp [hc, hs]
    · have hb : (z ((8 * i + k) / 5 + 1)).testBit (9 - (8 * i + k) % 5) = false := Nat.testBit_lt_two_pow (Nat.lt_of_lt_of_le (hz _ (by omega)) (Nat.pow_le_pow_right (n := 2) (by decide) (by omega : 8 ≤ 9 - (8 * i + k) % 5)))
      rw [hb]
      simp [hs]
  · simp [hc]

/-- the inner loop's step -/
theorem byte_shift {z : Nat → Nat} {n i k : Nat} (hz : ∀ i, i < n → z i < 256) (hi : i < 5 * n / 8) (hk : k < 8) : (byteAt z i / 2 ^ (8 - k) * 2 % 256) ||| modelBit z i k = byteAt z i / 2 ^ (8 - (k + 1)) := by
  rw [modelBit_is hz hi hk]
  have hb := byteAt_lt z i
  generalize byteAt z i = b at hb
  have e : 8 - k = (7 - k) + 1 := by omega
  have e' : 8 - (k + 1) = 7 - k := by omega
  rw [e, e']
  generalize 7 - k = c
  have h1 : b / 2 ^ (c + 1) = b / 2 ^ c / 2 := by rw [Nat.pow_succ, Nat.div_div_eq_div_mul]
  rw [h1]
  have h2 : b / 2 ^ c ≤ b := Nat.div_le_self _ _
  generalize b / 2 ^ c = d at h2
  have h3 : d / 2 * 2 % 256 = d / 2 * 2 := Nat.mod_eq_of_lt (by omega)
  rw [h3, nat_join 1 (d / 2 * 2) (d % 2) (by simp) (by omega)]
  omega

theorem modelBit_le (z : Nat → Nat) (i k : Nat) : modelBit z i k ≤ 1 := by
  unfold modelBit
  split
  · have h1 : z ((8 * i + k) / 5) / 2 ^ (4 - (8 * i + k) % 5) % 2 < 2 ^ 1 := Nat.mod_lt _ (by decide)
    have h2 : z ((8 * i + k) / 5 + 1) / 2 ^ (9 - (8 * i + k) % 5) % 2 < 2 ^ 1 := Nat.mod_lt _ (by decide)
    have := Nat.or_lt_two_pow h1 h2
    omega
  · omega

/-- the bits left over are bits of the last group -/
theorem ok_last {z : Nat → Nat} {n : Nat} (hz : ∀ i, i < n → z i < 256) (hn : 0 < n) : okB z n = (decide (5 * n % 8 < 5) && (z (n - 1) % 2 ^ (5 * n % 8) == 0)) := by
  unfold okB
  by_cases h5 : 5 * n % 8 < 5
  · have h : accTo z n / 2 ^ 0 % 2 ^ (5 * n % 8) = z (n - 1) / 2 ^ 0 % 2 ^ (5 * n % 8) := cut_eq (fun q hq => by
      rw [acc_bits hz (by omega) (by omega)]
      have e1 : (0 + q) / 5 = 0 := by omega
      have e2 : (0 + q) % 5 = 0 + q := by omega
      rw [e1, e2]
      simp)
    simp at h
    rw [h]
  · simp [h5]

theorem low_bits {x r : Nat} : (x % 2 ^ r = 0) ↔ ∀ b, b < r → x / 2 ^ b % 2 = 0 := by
  constructor
  · intro h b hb
    have : x.testBit b = false := by
      have h2 : (x % 2 ^ r).testBit b = false := by rw [h]; simp
      rw [Nat.testBit_mod_two_pow] at h2
      simpa [hb] using h2
    rw [← Nat.toNat_testBit, this]
    rfl
  · intro h
    apply Nat.eq_of_testBit_eq
    intro b
    rw [Nat.testBit_mod_two_pow, Nat.zero_testBit]
    by_cases hb : b < r
    · have := h b hb
      rw [← Nat.toNat_testBit] at this
      cases ht : x.testBit b
      · simp
      · rw [ht] at this; cases this
    · simp [hb]

end Go.Proofs.Qxb6630395a
