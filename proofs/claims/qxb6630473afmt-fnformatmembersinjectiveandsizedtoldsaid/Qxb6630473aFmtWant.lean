/-
  zzDigits, zzWantLen.
-/
import Derived.Test.Qxb6630473aFmtNoComma
import Derived.Lib.ItoaLen
namespace Go.Proofs.Qxb6630473aFmt
open Go.RowKit

set_option maxHeartbeats 1000000 in
theorem digits_any (v : Nat) (w : World) (hv : v < 18446744073709551616) :
    Calls Tryf.prog 15 #[.int .u64 (v : Int)] w fun e w' => e = .returned (.int .i64 (Lib.nDigits v : Int)) ∧ w' = w := by
  have h20 := Lib.nDigits_le20 v hv
  go_enter Tryf.func15, Tryf.ntmps15
  go_wp2
  go_loop [0, 3] (fun s i => ∃ (u m : Nat), s = .int .u64 u ∧ u < 18446744073709551616 ∧ i = .int .i64 m ∧ m ≤ 20 ∧ Hid (m + Lib.nDigits u = Lib.nDigits v + 1)) (fun s _ => (intOf s).toNat)
  case atStart => exact ⟨v, 1, rfl, hv, rfl, by decide, Nat.add_comm _ _⟩
  case round =>
    obtain ⟨u, m, rfl, hu, rfl, hm, hinv⟩ := hrel
    by_cases h10 : u < 10
    · have e : m = Lib.nDigits v := by have := hinv.out; rw [Lib.nDigits_small h10] at this; omega
      have E : Hid (m = Lib.nDigits v) := e
      clear e
      go_wp2
      go_ret
      exact ⟨by rw [← E.out]; rfl, rfl⟩
    · have hi := hinv.out
      rw [Lib.nDigits_big h10] at hi
      have hp := Lib.nDigits_pos (u / 10)
      have hm' : m + 1 ≤ 20 := by omega
      have H : Hid (m + 1 + Lib.nDigits (u / 10) = Lib.nDigits v + 1) := by show _ = _; omega
      clear hi hp hinv
      go_wp2
      go_round
      case rel => exact ⟨u / 10, m + 1, by simp, by omega, by go_num, hm', H⟩
      case measure => simp only [intOf]; omega

/-- the sum of the first k entries' lengths -/
def wantTo (I : Nat → Nat) (S : Nat → ByteArray) : Nat → Nat
  | 0 => 0
  | k + 1 => wantTo I S k + (Lib.nDigits (I k) + 1 + (S k).size)

theorem wantTo_le {I : Nat → Nat} {S : Nat → ByteArray} {n : Nat} (hI : ∀ i, i < n → I i < 18446744073709551616) (hS : Short n S) : ∀ k, k ≤ n → wantTo I S k ≤ k * 1048600
  | 0, _ => by simp [wantTo]
  | k + 1, hk => by
    have h1 := wantTo_le hI hS k (by omega)
    have h2 := Lib.nDigits_le20 _ (hI k (by omega))
    have h3 := hS k (by omega)
    rw [wantTo]
    omega

set_option maxHeartbeats 1000000 in
theorem want_any (a1 : Option Addr) (n c1 : Nat) (I : Nat → Nat) (a2 : Option Addr) (c2 : Nat) (S : Nat → ByteArray) (w : World) (h1 : IdsAt w a1 n I) (h2 : StrsAt w a2 n S) (hS : Short n S) (hmax : n ≤ 65536) :
    Calls Tryf.prog 12 #[.slice a1 n c1, .slice a2 n c2] w fun e w' => e = .returned (.int .i64 ((wantTo I S n + (n - 1) : Nat) : Int)) ∧ ∃ d, w' = w.drewN d := by
  obtain ⟨hl1, hI, b1, o1, hc1⟩ := h1
  obtain ⟨hl2, hs, b2, o2, hc2⟩ := h2
  unfold maxLen at hl1 hl2 hs
  have hle := wantTo_le hI hS
  go_enter Tryf.func12, Tryf.ntmps12
  go_wp2
  go_loopw [5, 6] (fun s i wr => ∃ (k : Nat), k ≤ n ∧ i = .int .i64 k ∧ s = .int .i64 (wantTo I S k : Int) ∧ Hid (∃ d, wr = w.drewN d)) (fun _ i _ => n - (intOf i).toNat)
  case atStart => exact ⟨0, Nat.zero_le _, rfl, rfl, ⟨0, rfl⟩⟩
  case round =>
    obtain ⟨k, hk, rfl, rfl, hwr⟩ := hrel
    have hb := hle k hk
    by_cases hlt : k < n
    · obtain ⟨ha1, hK1⟩ := hc1 k hlt
      obtain ⟨ha2, hK2⟩ := hc2 k hlt
      have hix1 := fun w => indexAt_one (P := Tryf.prog) (cap := c1) (b := b1) (off := o1) 22 Tryf.underlying22 size30 k hlt ha1 w
      have hix2 := fun w => indexAt_one (P := Tryf.prog) (cap := c2) (b := b2) (off := o2) 23 Tryf.underlying23 size9 k hlt ha2 w
      have hK1' : wr.cell? ⟨b1, o1 + k, none⟩ = some (.int .u64 (I k : Int)) := by obtain ⟨d, rfl⟩ := hwr.out; simpa using hK1
      have hK2' : wr.cell? ⟨b2, o2 + k, none⟩ = some (.string (S k)) := by obtain ⟨d, rfl⟩ := hwr.out; simpa using hK2
      have hd20 := Lib.nDigits_le20 _ (hI k hlt)
      have hsk := hS k hlt
      have hIk := hI k hlt
      have hw' : (wantTo I S (k + 1) : Int) = (wantTo I S k : Int) + (Lib.nDigits (I k) : Int) + 1 + ((S k).size : Int) := by rw [wantTo]; omega
      have HW : Hid (_ = _) := hw'
      clear ha1 ha2 hc1 hc2 hle hw' hs hK1 hK2
      go_wp2
      go_quiet (first | (go_at_call 15; refine Calls.quiet_of_same (digits_any (I k) _ hIk)))
      go_wp2
      go_roundw
      case rel => exact ⟨k + 1, by omega, by go_num, by rw [HW.out], by obtain ⟨d, e⟩ := hwr.out; exact ⟨d + nq, by rw [e]; simp⟩⟩
      case measure => simp [intOf]; omega
    · obtain rfl : k = n := by omega
      by_cases h0 : k = 0
      · subst h0
        go_wp2
        go_ret
        exact ⟨rfl, hwr.out⟩
      · have hw' : ((wantTo I S k + (k - 1) : Nat) : Int) = (wantTo I S k : Int) + (k : Int) - 1 := by omega
        have HW : Hid (_ = _) := hw'
        clear hw'
        go_wp2
        go_ret
        exact ⟨by rw [HW.out]; rfl, hwr.out⟩

end Go.Proofs.Qxb6630473aFmt
