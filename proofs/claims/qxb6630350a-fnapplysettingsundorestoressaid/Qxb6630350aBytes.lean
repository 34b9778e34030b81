/-
  zzBytes and the two zzBytes_..: each returns some number, some bool; nothing in memory turns.
-/
import Derived.Test.Qxb6630350aLast
import Derived.Deep.QuietTactic
import Derived.BigQuiet
namespace Go.Proofs.Qxb6630350a
open Go.RowKit

set_option maxHeartbeats 400000 in
theorem bytes_any (a : Option Addr) (len cap : Nat) (K V : Nat → ByteArray) (acc : Int) (w : World) (h : KVs w a len cap K V) :
    Calls Try.prog 6 #[.slice a len cap, .int .i64 acc] w fun e w' => ∃ n : Int, e = .returned (.int .i64 n) ∧ ∃ d, w' = w.drewN d := by
  obtain ⟨hlen, hsz, b, off, hc⟩ := h
  unfold maxLen at hlen
  go_enter Try.func6, Try.ntmps6
  go_wp2
  go_loopw [1, 5] (fun s i wr => ∃ (k : Nat) (n : Int) (d : Nat), k ≤ len ∧ i = .int .i64 k ∧ s = .int .i64 n ∧ wr = w.drewN d) (fun _ i _ => len - (intOf i).toNat)
  case atStart => exact ⟨0, acc, 0, Nat.zero_le _, rfl, rfl, rfl⟩
  case round =>
    obtain ⟨k, n, d, hk, rfl, rfl, rfl⟩ := hrel
    by_cases hlt : k < len
    · obtain ⟨ha, hK, hV⟩ := hc k hlt
      have hix := fun w => indexAt_kv (P := Try.prog) (cap := cap) (b := b) (off := off) 22 Try.underlying22 size33 k hlt ha w
      clear ha
      go_wp2
      go_quiet (fail)
      go_wp2
      · go_ret
        exact ⟨_, rfl, _, rfl⟩
      · go_roundw
        case rel => exact ⟨k + 1, _, _, by omega, by go_num, rfl, rfl⟩
        case measure => simp [intOf]; omega
    · go_wp2
      go_ret
      exact ⟨_, rfl, d, rfl⟩

/-- some bool is returned (behind a name: the walk's simp parts '∃ x : Bool' in two) -/
def SomeBool (e : Ending) : Prop := ∃ x : Bool, e = .returned (.bool x)

set_option maxHeartbeats 1000000 in
theorem guard5_any (a1 : Option Addr) (n1 c1 : Nat) (K1 V1 : Nat → ByteArray) (a2 : Option Addr) (n2 c2 : Nat) (K2 V2 : Nat → ByteArray) (w : World) (h1 : KVs w a1 n1 c1 K1 V1) (h2 : KVs w a2 n2 c2 K2 V2) :
    Calls Try.prog 5 #[.slice a1 n1 c1, .slice a2 n2 c2] w fun e w' => SomeBool e ∧ w' = w := by
  obtain ⟨hl1, hs1, b1, o1, hc1⟩ := h1
  obtain ⟨hl2, hs2, b2, o2, hc2⟩ := h2
  unfold maxLen at hl1 hl2
  by_cases hb1 : 1048576 < n1
  · go_enter Try.func5, Try.ntmps5
    go_wp2
    go_ret
    exact ⟨⟨_, rfl⟩, rfl⟩
  by_cases hb2 : 1048576 < n2
  all_goals
    go_enter Try.func5, Try.ntmps5
    go_wp2
    go_loop [5, 6] (fun s i => ∃ (k : Nat) (n : Int), k ≤ n1 ∧ i = .int .i64 k ∧ s = .int .i64 n) (fun _ i => n1 - (intOf i).toNat)
    case atStart => exact ⟨0, _, Nat.zero_le _, rfl, rfl⟩
    case round =>
      obtain ⟨k, n, hk, rfl, rfl⟩ := hrel
      by_cases hlt : k < n1
      · obtain ⟨ha, hK, hV⟩ := hc1 k hlt
        have hix := fun w => indexAt_kv (P := Try.prog) (cap := c1) (b := b1) (off := o1) 22 Try.underlying22 size33 k hlt ha w
        clear ha hc2
        go_wp2
        all_goals first
          | (go_ret; exact ⟨⟨_, rfl⟩, rfl⟩)
          | (go_round; (case rel => exact ⟨k + 1, _, by omega, by go_num, rfl⟩); (case measure => simp [intOf]; omega))
      · go_wp2
        all_goals try (go_ret; exact ⟨⟨_, rfl⟩, rfl⟩)
        all_goals
          go_loop [5, 7] (fun s i => ∃ (k : Nat) (n : Int), k ≤ n2 ∧ i = .int .i64 k ∧ s = .int .i64 n) (fun _ i => n2 - (intOf i).toNat)
          case atStart => exact ⟨0, _, Nat.zero_le _, rfl, rfl⟩
          case round =>
            obtain ⟨k, n, hk, rfl, rfl⟩ := hrel
            by_cases hlt : k < n2
            · obtain ⟨ha, hK, hV⟩ := hc2 k hlt
              have hix := fun w => indexAt_kv (P := Try.prog) (cap := c2) (b := b2) (off := o2) 22 Try.underlying22 size33 k hlt ha w
              clear ha hc1
              go_wp2
              all_goals first
                | (go_ret; exact ⟨⟨_, rfl⟩, rfl⟩)
                | (go_round; (case rel => exact ⟨k + 1, _, by omega, by go_num, rfl⟩); (case measure => simp [intOf]; omega))
            · go_wp2
              go_ret
              exact ⟨⟨_, rfl⟩, rfl⟩

set_option maxHeartbeats 1000000 in
theorem guard12_any (a1 : Option Addr) (n1 c1 : Nat) (K1 V1 : Nat → ByteArray) (a2 : Option Addr) (n2 c2 : Nat) (K2 V2 : Nat → ByteArray) (w : World) (h1 : KVs w a1 n1 c1 K1 V1) (h2 : KVs w a2 n2 c2 K2 V2) :
    Calls Try.prog 12 #[.slice a1 n1 c1, .slice a2 n2 c2] w fun e w' => SomeBool e ∧ w' = w := by
  obtain ⟨hl1, hs1, b1, o1, hc1⟩ := h1
  obtain ⟨hl2, hs2, b2, o2, hc2⟩ := h2
  unfold maxLen at hl1 hl2
  by_cases hb1 : 1048576 < n1
  · go_enter Try.func12, Try.ntmps12
    go_wp2
    go_ret
    exact ⟨⟨_, rfl⟩, rfl⟩
  by_cases hb2 : 1048576 < n2
  all_goals
    go_enter Try.func12, Try.ntmps12
    go_wp2
    go_loop [5, 6] (fun s i => ∃ (k : Nat) (n : Int), k ≤ n1 ∧ i = .int .i64 k ∧ s = .int .i64 n) (fun _ i => n1 - (intOf i).toNat)
    case atStart => exact ⟨0, _, Nat.zero_le _, rfl, rfl⟩
    case round =>
      obtain ⟨k, n, hk, rfl, rfl⟩ := hrel
      by_cases hlt : k < n1
      · obtain ⟨ha, hK, hV⟩ := hc1 k hlt
        have hix := fun w => indexAt_kv (P := Try.prog) (cap := c1) (b := b1) (off := o1) 22 Try.underlying22 size33 k hlt ha w
        clear ha hc2
        go_wp2
        all_goals first
          | (go_ret; exact ⟨⟨_, rfl⟩, rfl⟩)
          | (go_round; (case rel => exact ⟨k + 1, _, by omega, by go_num, rfl⟩); (case measure => simp [intOf]; omega))
      · go_wp2
        all_goals try (go_ret; exact ⟨⟨_, rfl⟩, rfl⟩)
        all_goals
          go_loop [5, 7] (fun s i => ∃ (k : Nat) (n : Int), k ≤ n2 ∧ i = .int .i64 k ∧ s = .int .i64 n) (fun _ i => n2 - (intOf i).toNat)
          case atStart => exact ⟨0, _, Nat.zero_le _, rfl, rfl⟩
          case round =>
            obtain ⟨k, n, hk, rfl, rfl⟩ := hrel
            by_cases hlt : k < n2
            · obtain ⟨ha, hK, hV⟩ := hc2 k hlt
              have hix := fun w => indexAt_kv (P := Try.prog) (cap := c2) (b := b2) (off := o2) 22 Try.underlying22 size33 k hlt ha w
              clear ha hc1
              go_wp2
              all_goals first
                | (go_ret; exact ⟨⟨_, rfl⟩, rfl⟩)
                | (go_round; (case rel => exact ⟨k + 1, _, by omega, by go_num, rfl⟩); (case measure => simp [intOf]; omega))
            · go_wp2
              go_ret
              exact ⟨⟨_, rfl⟩, rfl⟩

end Go.Proofs.Qxb6630350a
