/-
  zzBytes and the two zzBytes_..: each returns some number, some bool; nothing in memory turns.
  A guard that says true has seen that each address is at most 1048576 bytes long.
-/
import Derived.Test.Qxb6630473aFmtUtoa
import Derived.Deep.QuietTactic
import Derived.BigQuiet
namespace Go.Proofs.Qxb6630473aFmt
open Go.RowKit

def Short (n : Nat) (S : Nat → ByteArray) : Prop := ∀ j, j < n → (S j).size ≤ 1048576

theorem Short.zero (S : Nat → ByteArray) : Short 0 S := fun j hj => absurd hj (Nat.not_lt_zero j)
theorem Short.succ {n : Nat} {S : Nat → ByteArray} (h : Short n S) (h' : (S n).size ≤ 1048576) : Short (n + 1) S := fun j hj => by
  rcases Nat.lt_or_ge j n with h1 | h1
  · exact h j h1
  · rw [show j = n by omega]; exact h'

/-- some number is returned -/
def SomeInt (e : Ending) : Prop := ∃ n : Int, e = .returned (.int .i64 n)

/-- some bool is returned; true tells P -/
def BoolTells (P : Prop) (e : Ending) : Prop := ∃ x : Bool, e = .returned (.bool x) ∧ (x = true → P)

theorem BoolTells.no (P : Prop) : BoolTells P (.returned (.bool false)) := ⟨false, rfl, fun h => absurd h (by decide)⟩
theorem BoolTells.yes {P : Prop} (h : P) : BoolTells P (.returned (.bool true)) := ⟨true, rfl, fun _ => h⟩

set_option maxHeartbeats 1000000 in
theorem bytes_any (a1 : Option Addr) (n1 c1 : Nat) (I : Nat → Nat) (a2 : Option Addr) (n2 c2 : Nat) (S : Nat → ByteArray) (acc : Int) (w : World) (h1 : IdsAt w a1 n1 I) (h2 : StrsAt w a2 n2 S) :
    Calls Tryf.prog 6 #[.slice a1 n1 c1, .slice a2 n2 c2, .int .i64 acc] w fun e w' => SomeInt e ∧ w' = w := by
  obtain ⟨hl1, -⟩ := h1
  obtain ⟨hl2, hs, b, off, hc⟩ := h2
  unfold maxLen at hl1 hl2
  go_enter Tryf.func6, Tryf.ntmps6
  go_wp2
  · go_ret
    exact ⟨⟨_, rfl⟩, rfl⟩
  · go_loop [2, 7] (fun s i => ∃ (k : Nat) (n : Int), k ≤ n2 ∧ i = .int .i64 k ∧ s = .int .i64 n) (fun _ i => n2 - (intOf i).toNat)
    case atStart => exact ⟨0, _, Nat.zero_le _, rfl, rfl⟩
    case round =>
      obtain ⟨k, n, hk, rfl, rfl⟩ := hrel
      by_cases hlt : k < n2
      · obtain ⟨ha, hV⟩ := hc k hlt
        have hix := fun w => indexAt_one (P := Tryf.prog) (cap := c2) (b := b) (off := off) 23 Tryf.underlying23 size9 k hlt ha w
        clear ha
        go_wp2
        · go_ret
          exact ⟨⟨_, rfl⟩, rfl⟩
        · go_round
          case rel => exact ⟨k + 1, _, by omega, by go_num, rfl⟩
          case measure => simp [intOf]; omega
      · go_wp2
        go_ret
        exact ⟨⟨_, rfl⟩, rfl⟩

set_option maxHeartbeats 1000000 in
theorem guard5_any (a1 : Option Addr) (n1 c1 : Nat) (I : Nat → Nat) (a2 : Option Addr) (n2 c2 : Nat) (S : Nat → ByteArray) (x : Int) (w : World) (h1 : IdsAt w a1 n1 I) (h2 : StrsAt w a2 n2 S) :
    Calls Tryf.prog 5 #[.slice a1 n1 c1, .slice a2 n2 c2, .int .i64 x] w fun e w' => BoolTells (Short n2 S) e ∧ w' = w := by
  obtain ⟨hl1, -⟩ := h1
  obtain ⟨hl2, hs, b, off, hc⟩ := h2
  unfold maxLen at hl1 hl2
  by_cases hb1 : 1048576 < n1
  · go_enter Tryf.func5, Tryf.ntmps5
    go_wp2
    go_ret
    exact ⟨.no _, rfl⟩
  by_cases hb2 : 1048576 < n2
  · go_enter Tryf.func5, Tryf.ntmps5
    go_wp2
    go_ret
    exact ⟨.no _, rfl⟩
  by_cases hb3 : 1048576 < n1 + n2
  · go_enter Tryf.func5, Tryf.ntmps5
    go_wp2
    go_ret
    exact ⟨.no _, rfl⟩
  go_enter Tryf.func5, Tryf.ntmps5
  go_wp2
  go_loop [7, 8] (fun s i => ∃ (k : Nat) (n : Int), k ≤ n2 ∧ i = .int .i64 k ∧ s = .int .i64 n ∧ Hid (Short k S)) (fun _ i => n2 - (intOf i).toNat)
  case atStart => exact ⟨0, _, Nat.zero_le _, rfl, rfl, Short.zero S⟩
  case round =>
    obtain ⟨k, n, hk, rfl, rfl, hsh⟩ := hrel
    by_cases hlt : k < n2
    · obtain ⟨ha, hV⟩ := hc k hlt
      have hix := fun w => indexAt_one (P := Tryf.prog) (cap := c2) (b := b) (off := off) 23 Tryf.underlying23 size9 k hlt ha w
      clear ha
      by_cases hsz : 1048576 < (S k).size
      · go_wp2
        go_ret
        exact ⟨.no _, rfl⟩
      · go_wp2
        · go_ret
          exact ⟨.no _, rfl⟩
        · go_round
          case rel => exact ⟨k + 1, _, by omega, by go_num, rfl, hsh.out.succ (by omega)⟩
          case measure => simp [intOf]; omega
    · have e : k = n2 := by omega
      subst e
      go_wp2
      go_ret
      exact ⟨.yes hsh.out, rfl⟩

set_option maxHeartbeats 2000000 in
theorem guard10_any (a1 : Option Addr) (n1 c1 : Nat) (I : Nat → Nat) (a2 : Option Addr) (n2 c2 : Nat) (S : Nat → ByteArray) (a3 : Option Addr) (n3 c3 : Nat) (J : Nat → Nat) (a4 : Option Addr) (n4 c4 : Nat) (T : Nat → ByteArray) (w : World)
    (h1 : IdsAt w a1 n1 I) (h2 : StrsAt w a2 n2 S) (h3 : IdsAt w a3 n3 J) (h4 : StrsAt w a4 n4 T) :
    Calls Tryf.prog 10 #[.slice a1 n1 c1, .slice a2 n2 c2, .slice a3 n3 c3, .slice a4 n4 c4] w fun e w' => BoolTells (Short n2 S ∧ Short n4 T) e ∧ w' = w := by
  obtain ⟨hl1, -⟩ := h1
  obtain ⟨hl2, hs, b, off, hc⟩ := h2
  obtain ⟨hl3, -⟩ := h3
  obtain ⟨hl4, hs4, b4, off4, hc4⟩ := h4
  unfold maxLen at hl1 hl2 hl3 hl4
  by_cases hb1 : 1048576 < n1
  · go_enter Tryf.func10, Tryf.ntmps10
    go_wp2
    go_ret
    exact ⟨.no _, rfl⟩
  by_cases hb2 : 1048576 < n2
  · go_enter Tryf.func10, Tryf.ntmps10
    go_wp2
    go_ret
    exact ⟨.no _, rfl⟩
  by_cases hb3 : 1048576 < n1 + n2
  · go_enter Tryf.func10, Tryf.ntmps10
    go_wp2
    go_ret
    exact ⟨.no _, rfl⟩
  go_enter Tryf.func10, Tryf.ntmps10
  go_wp2
  go_loop [9, 10] (fun s i => ∃ (k : Nat) (n : Int), k ≤ n2 ∧ i = .int .i64 k ∧ s = .int .i64 n ∧ Hid (Short k S)) (fun _ i => n2 - (intOf i).toNat)
  case atStart => exact ⟨0, _, Nat.zero_le _, rfl, rfl, Short.zero S⟩
  case round =>
    obtain ⟨k, n, hk, rfl, rfl, hsh⟩ := hrel
    by_cases hlt : k < n2
    · obtain ⟨ha, hV⟩ := hc k hlt
      have hix := fun w => indexAt_one (P := Tryf.prog) (cap := c2) (b := b) (off := off) 23 Tryf.underlying23 size9 k hlt ha w
      clear ha hc4
      by_cases hsz : 1048576 < (S k).size
      · go_wp2
        go_ret
        exact ⟨.no _, rfl⟩
      · go_wp2
        · go_ret
          exact ⟨.no _, rfl⟩
        · go_round
          case rel => exact ⟨k + 1, _, by omega, by go_num, rfl, hsh.out.succ (by omega)⟩
          case measure => simp [intOf]; omega
    · have e : k = n2 := by omega
      subst e
      by_cases hb4 : 1048576 < n3
      · go_wp2
        go_ret
        exact ⟨.no _, rfl⟩
      by_cases hb5 : 1048576 < n4
      · go_wp2
        all_goals
          go_ret
          exact ⟨.no _, rfl⟩
      go_wp2
      · go_ret
        exact ⟨.no _, rfl⟩
      · go_ret
        exact ⟨.no _, rfl⟩
      go_loop [9, 11] (fun s i => ∃ (k : Nat) (n : Int), k ≤ n4 ∧ i = .int .i64 k ∧ s = .int .i64 n ∧ Hid (Short k T)) (fun _ i => n4 - (intOf i).toNat)
      case atStart => exact ⟨0, _, Nat.zero_le _, rfl, rfl, Short.zero T⟩
      case round =>
        obtain ⟨k', n', hk', rfl, rfl, hsh'⟩ := hrel
        by_cases hlt' : k' < n4
        · obtain ⟨ha, hV⟩ := hc4 k' hlt'
          have hix := fun w => indexAt_one (P := Tryf.prog) (cap := c4) (b := b4) (off := off4) 23 Tryf.underlying23 size9 k' hlt' ha w
          clear ha hc
          by_cases hsz : 1048576 < (T k').size
          · go_wp2
            go_ret
            exact ⟨.no _, rfl⟩
          · go_wp2
            · go_ret
              exact ⟨.no _, rfl⟩
            · go_round
              case rel => exact ⟨k' + 1, _, by omega, by go_num, rfl, hsh'.out.succ (by omega)⟩
              case measure => simp [intOf]; omega
        · have e : k' = n4 := by omega
          subst e
          go_wp2
          go_ret
          exact ⟨.yes ⟨hsh.out, hsh'.out⟩, rfl⟩

end Go.Proofs.Qxb6630473aFmt
