/-
  The plain side of fromGroups: the accumulator and the bytes, over Nat; no Go in sight.
-/
import Derived.Laws.BitsAllLaws
namespace Go.Proofs.Qxb6630395a

/-- the accumulator behind k groups -/
def accTo (z : Nat → Nat) : Nat → Nat
  | 0 => 0
  | k + 1 => (accTo z k * 32 % 4294967296) ||| z k

/-- the group that completes byte i -/
def fillAt (i : Nat) : Nat := (8 * (i + 1) + 4) / 5 - 1

/-- byte i -/
def byteAt (z : Nat → Nat) (i : Nat) : Nat := accTo z (fillAt i + 1) / 2 ^ (5 * (fillAt i + 1) % 8) % 256

theorem byteAt_lt (z : Nat → Nat) (i : Nat) : byteAt z i < 256 := Nat.mod_lt _ (by decide)

theorem accTo_lt {z : Nat → Nat} {n : Nat} (hz : ∀ i, i < n → z i < 256) : ∀ k, k ≤ n → accTo z k < 4294967296
  | 0, _ => by simp [accTo]
  | k + 1, h => by
    unfold accTo
    have h2 : z k < 2 ^ 32 := Nat.lt_trans (hz k (by omega)) (by decide)
    exact Nat.or_lt_two_pow (n := 32) (Nat.mod_lt _ (by decide)) h2

theorem acc_step (A x : Nat) (hx : x < 256) : bits .or .u32 ((A : Int) * 32 % 4294967296) (x : Int) = (((A * 32 % 4294967296) ||| x : Nat) : Int) := by
  rw [← u32_or_nat _ _ (Nat.mod_lt _ (by decide)) (by omega)]
  congr 1

theorem fill_is {k r : Nat} (hr : r = 5 * k % 8) (h : 3 ≤ r) : fillAt (5 * k / 8) = k := by
  unfold fillAt; omega

theorem byte_step {z : Nat → Nat} {k r : Nat} (hr : r = 5 * k % 8) (h : 3 ≤ r) (hz : z k < 256) :
    bits .or .u32 ((accTo z k : Int) * 32 % 4294967296) (z k : Int) / 2 ^ (r - 3) % 256 = ((byteAt z (5 * k / 8) : Nat) : Int) := by
  have e1 : 5 * (k + 1) % 8 = r - 3 := by omega
  rw [acc_step _ _ hz, byteAt, fill_is hr h, e1]
  show _ = ((accTo z (k + 1) / 2 ^ (r - 3) % 256 : Nat) : Int)
  rw [show accTo z (k + 1) = (accTo z k * 32 % 4294967296) ||| z k from rfl]
  generalize (accTo z k * 32 % 4294967296) ||| z k = x
  simp

/-- the bits left over are fewer than five and all zero -/
def okB (z : Nat → Nat) (n : Nat) : Bool := decide (5 * n % 8 < 5) && (accTo z n % 2 ^ (5 * n % 8) == 0)

theorem mask_val (A r : Nat) (hA : A < 4294967296) (hr : r < 8) : bits .and .u32 (A : Int) ((2 ^ r - 1) % 4294967296) = ((A % 2 ^ r : Nat) : Int) := by
  have h1 : 1 ≤ 2 ^ r := Nat.one_le_two_pow
  have h2 : 2 ^ r ≤ 2 ^ 8 := Nat.pow_le_pow_right (by decide) (by omega)
  have e : ((2 : Int) ^ r - 1) % 4294967296 = ((2 ^ r - 1 : Nat) : Int) := by
    rw [Int.ofNat_sub h1]
    rw [show ((2 ^ r : Nat) : Int) = (2 : Int) ^ r from by simp]
    refine Int.emod_eq_of_lt ?_ ?_
    · have : ((2 ^ r : Nat) : Int) = (2 : Int) ^ r := by simp
      omega
    · have : ((2 ^ r : Nat) : Int) = (2 : Int) ^ r := by simp
      omega
  rw [e, u32_and_nat _ _ hA (by omega), Nat.and_two_pow_sub_one_eq_mod]

theorem test_ok {z : Nat → Nat} {n r : Nat} (hr : r = 5 * n % 8) (hA : accTo z n < 4294967296) (h : okB z n = true) : r < 5 ∧ (bits .and .u32 (accTo z n : Int) ((2 ^ r - 1) % 4294967296) != 0) = false := by
  subst hr
  simp only [okB, Bool.and_eq_true, decide_eq_true_eq, beq_iff_eq] at h
  refine ⟨h.1, ?_⟩
  rw [mask_val _ _ hA (by omega), h.2]
  rfl

theorem test_bad {z : Nat → Nat} {n r : Nat} (hr : r = 5 * n % 8) (hA : accTo z n < 4294967296) (h : okB z n = false) (h5 : r < 5) : (bits .and .u32 (accTo z n : Int) ((2 ^ r - 1) % 4294967296) != 0) = true := by
  subst hr
  simp only [okB, h5, decide_true, Bool.true_and, beq_eq_false_iff_ne, ne_eq] at h
  rw [mask_val _ _ hA (by omega), bne_iff_ne]
  omega

end Go.Proofs.Qxb6630395a
