/-
  zzNoComma, zzDigits, zzWantLen.
-/
import Derived.Test.Qxb6630473aFmtGuard
namespace Go.Proofs.Qxb6630473aFmt
open Go.RowKit

/-- no byte of s ahead of k is a comma -/
def FreeTo (s : ByteArray) (k : Nat) : Prop := ∀ j (h : j < s.size), j < k → s[j].toNat ≠ 44
/-- none of the first n addresses holds a comma -/
def Clean (n : Nat) (S : Nat → ByteArray) : Prop := ∀ i, i < n → FreeTo (S i) (S i).size

theorem Clean.zero (S : Nat → ByteArray) : Clean 0 S := fun j hj => absurd hj (Nat.not_lt_zero j)
theorem Clean.succ {n : Nat} {S : Nat → ByteArray} (h : Clean n S) (h' : FreeTo (S n) (S n).size) : Clean (n + 1) S := fun j hj => by
  rcases Nat.lt_or_ge j n with h1 | h1
  · exact h j h1
  · rw [show j = n by omega]; exact h'
theorem FreeTo.zero (s : ByteArray) : FreeTo s 0 := fun j _ hj => absurd hj (Nat.not_lt_zero j)
theorem FreeTo.succ {s : ByteArray} {k : Nat} (h : FreeTo s k) (hk : k < s.size) (h' : s[k].toNat ≠ 44) : FreeTo s (k + 1) := fun j hs hj => by
  rcases Nat.lt_or_ge j k with h1 | h1
  · exact h j hs h1
  · obtain rfl : j = k := by omega
    exact h'

set_option maxHeartbeats 1000000 in
theorem nocomma_any (a : Option Addr) (n c : Nat) (S : Nat → ByteArray) (w : World) (h : StrsAt w a n S) :
    Calls Tryf.prog 11 #[.slice a n c] w fun e w' => BoolTells (Clean n S) e ∧ w' = w := by
  obtain ⟨hl, hs, b, off, hc⟩ := h
  unfold maxLen at hl hs
  go_enter Tryf.func11, Tryf.ntmps11
  go_wp2
  go_loop [3, 4, 5] (fun i _ _ => ∃ k : Nat, k ≤ n ∧ i = .int .i64 k ∧ Hid (Clean k S)) (fun i _ _ => n - (intOf i).toNat)
  case atStart => exact ⟨0, Nat.zero_le _, rfl, Clean.zero S⟩
  case round =>
    obtain ⟨k, hk, rfl, hcl⟩ := hrel
    by_cases hlt : k < n
    · obtain ⟨ha, hV⟩ := hc k hlt
      have hsk := hs k hlt
      have hix := fun w => indexAt_one (P := Tryf.prog) (cap := c) (b := b) (off := off) 23 Tryf.underlying23 size9 k hlt ha w
      clear ha hc
      go_wp2
      go_loop [5] (fun i => ∃ j : Nat, j ≤ (S k).size ∧ i = .int .i64 j ∧ Hid (FreeTo (S k) j)) (fun i => (S k).size - (intOf i).toNat)
      case atStart => exact ⟨0, Nat.zero_le _, rfl, FreeTo.zero _⟩
      case round =>
        obtain ⟨j, hj, rfl, hfr⟩ := hrel
        by_cases hlt' : j < (S k).size
        · by_cases hb : (S k)[j].toNat = 44
          · have t : (((S k)[j].toNat : Int) == 44) = true := by rw [beq_iff_eq]; omega
            clear hb
            go_wp2
            go_ret
            exact ⟨.no _, rfl⟩
          · have t : (((S k)[j].toNat : Int) == 44) = false := by rw [beq_eq_false_iff_ne]; omega
            go_wp2
            go_round
            case rel => exact ⟨j + 1, by omega, by go_num, hfr.out.succ hlt' hb⟩
            case measure => simp [intOf]; omega
        · have hf : FreeTo (S k) (S k).size := by have := hfr.out; rwa [show j = (S k).size by omega] at this
          go_wp2
          go_round
          case rel => exact ⟨k + 1, by omega, by go_num, hcl.out.succ hf⟩
          case measure => simp [intOf]; omega
    · obtain rfl : k = n := by omega
      go_wp2
      go_ret
      exact ⟨.yes hcl.out, rfl⟩

end Go.Proofs.Qxb6630473aFmt
