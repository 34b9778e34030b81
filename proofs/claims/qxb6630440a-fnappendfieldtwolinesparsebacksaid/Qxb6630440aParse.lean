/-
  hasByte, parseLine, the guard of the five.
-/
import Derived.Test.Qxb6630440aLenWalk
namespace Go.Proofs.Qxb6630440a
open Go.RowKit

theorem guard5_any (a1 : Option Addr) (n1 c1 : Nat) (s1 s2 s3 s4 : ByteArray) (w : World) (h1 : n1 ≤ maxLen) (h2 : s1.size ≤ maxLen) (h3 : s2.size ≤ maxLen) (h4 : s3.size ≤ maxLen) (h5 : s4.size ≤ maxLen) :
    Calls Try.prog 5 #[.slice a1 n1 c1, .string s1, .string s2, .string s3, .string s4] w fun e w' => SomeBool e ∧ w' = w := by
  unfold maxLen at h1 h2 h3 h4 h5
  go_enter Try.func5, Try.ntmps5
  go_wp2
  all_goals
    go_ret
    exact ⟨⟨_, rfl⟩, rfl⟩

/-- a bool comes back; false only where no byte of s is c -/
def HasPost (e : Ending) (s : ByteArray) (c : Int) : Prop := ∃ x : Bool, e = .returned (.bool x) ∧ (x = false → ∀ i, i < s.size → at' s.data.toList i ≠ c)

set_option maxHeartbeats 400000 in
theorem hasByte_any (s : ByteArray) (c : Int) (w : World) (hs : s.size ≤ maxLen) :
    Calls Try.prog 6 #[.string s, .int .u8 c] w fun e w' => HasPost e s c ∧ w' = w := by
  unfold maxLen at hs
  go_enter Try.func6, Try.ntmps6
  go_wp2
  go_loop [5] (fun i => ∃ k : Nat, k ≤ s.size ∧ i = .int .i64 k ∧ Hid (∀ i, i < k → at' s.data.toList i ≠ c)) (fun i => s.size - (intOf i).toNat)
  case atStart => exact ⟨0, Nat.zero_le _, rfl, fun i hi => absurd hi (Nat.not_lt_zero _)⟩
  case round =>
    obtain ⟨k, hk, rfl, hl⟩ := hrel
    by_cases hlt : k < s.size
    · have HA : Hid ((s[k].toNat : Int) = at' s.data.toList k) := str_at s k hlt
      go_wp2
      · go_ret
        exact ⟨⟨true, rfl, fun h => by cases h⟩, rfl⟩
      · have ht : ((s[k].toNat : Int) == c) = false := by assumption
        go_round
        case rel =>
          refine ⟨k + 1, by omega, by go_num, fun i hi => ?_⟩
          by_cases e : i = k
          · subst e
            rw [← HA.out]
            exact beq_eq_false_iff_ne.1 ht
          · exact hl.out i (by omega)
        case measure => simp [intOf]; omega
    · obtain rfl : k = s.size := by omega
      go_wp2
      go_ret
      exact ⟨⟨false, rfl, fun _ => hl.out⟩, rfl⟩

set_option maxHeartbeats 1000000 in
set_option maxRecDepth 100000 in
theorem parse_any (g cap : Nat) (l : List UInt8) (p i j : Nat) (w : World) (h : BytesAt w (some ⟨g, 0, none⟩) l) (hcap : l.length ≤ cap) (hcm : cap ≤ maxLen) (hpi : p ≤ i) (hij : i + 2 ≤ j) (hj : j + 2 ≤ l.length)
    (hn : ∀ k, p ≤ k → k < i → at' l k ≠ 58) (hi : at' l i = 58) (hi1 : at' l (i + 1) = 32) (hv : ∀ k, i + 2 ≤ k → k < j → at' l k ≠ 13) (hj0 : at' l j = 13) (hj1 : at' l (j + 1) = 10) :
    Calls Try.prog 10 #[.slice (some ⟨g, 0, none⟩) l.length cap, .int .i64 (p : Int)] w fun e w' =>
      e = .returned (.tuple #[.slice (some ⟨g, p, none⟩) (i - p) (cap - p), .slice (some ⟨g, i + 2, none⟩) (j - (i + 2)) (cap - (i + 2)), .int .i64 ((j : Int) + 2), .bool true]) ∧ ∃ d, w' = w.drewN d := by
  have hcell : ∀ k, k < l.length → w.cell? ⟨g, k, none⟩ = some (.int .u8 (at' l k)) := by
    obtain ⟨_, b, off, hc⟩ := h
    intro k hk
    obtain ⟨e, c⟩ := hc k hk
    cases e
    simpa using c
  unfold maxLen at hcm
  have c1 := hcell i (by omega)
  rw [hi] at c1
  have c2 := hcell (i + 1) (by omega)
  rw [hi1] at c2
  have c3 := hcell j (by omega)
  rw [hj0] at c3
  have c4 := hcell (j + 1) (by omega)
  rw [hj1] at c4
  have HC : Hid (∀ k, k < l.length → w.cell? ⟨g, k, none⟩ = some (.int .u8 (at' l k))) := hcell
  have HN : Hid (∀ k, p ≤ k → k < i → at' l k ≠ 58) := hn
  have HV : Hid (∀ k, i + 2 ≤ k → k < j → at' l k ≠ 13) := hv
  clear h hcell hn hv hi hi1 hj0 hj1
  go_enter Try.func10, Try.ntmps10
  go_wp2
  go_loop [8] (fun s => ∃ k : Nat, p ≤ k ∧ k ≤ i ∧ s = .int .i64 k) (fun s => i - (intOf s).toNat)
  case atStart => exact ⟨p, Nat.le_refl _, hpi, rfl⟩
  case round =>
    obtain ⟨k, hpk, hki, rfl⟩ := hrel
    by_cases hlt : k < i
    · obtain ⟨c, hc⟩ : ∃ c, c = at' l k := ⟨_, rfl⟩
      have ck := HC.out k (by omega)
      rw [← hc] at ck
      have tk : (c != 58) = true := by rw [bne_iff_ne, hc]; exact HN.out k hpk hlt
      clear hc c1 c2 c3 c4
      go_wp2
      go_round
      case rel => exact ⟨k + 1, by omega, by omega, by go_num⟩
      case measure => simp [intOf]; omega
    · obtain rfl : k = i := by omega
      go_wp2
      go_loop [9] (fun s => ∃ k' : Nat, k + 2 ≤ k' ∧ k' ≤ j ∧ s = .int .i64 k') (fun s => j - (intOf s).toNat)
      case atStart => exact ⟨k + 2, Nat.le_refl _, hij, rfl⟩
      case round =>
        obtain ⟨k', hpk', hkj, rfl⟩ := hrel
        by_cases hlt : k' < j
        · obtain ⟨c, hc⟩ : ∃ c, c = at' l k' := ⟨_, rfl⟩
          have ck := HC.out k' (by omega)
          rw [← hc] at ck
          have tk : (c != 13) = true := by rw [bne_iff_ne, hc]; exact HV.out k' hpk' hlt
          clear hc c1 c2 c3 c4
          go_wp2
          go_round
          case rel => exact ⟨k' + 1, by omega, by omega, by go_num⟩
          case measure => simp [intOf]; omega
        · obtain rfl : k' = j := by omega
          go_wp2
          go_quiet (fail)
          go_wp2
          exact bodyPost_ret (v := .tuple #[.slice (some ⟨g, p, none⟩) (k - p) (cap - p), .slice (some ⟨g, k + 2, none⟩) (k' - (k + 2)) (cap - (k + 2)), .int .i64 ((k' : Int) + 2), .bool true]) (by simp [results, Try.results10, go_sem]) rfl ⟨rfl, _, rfl⟩

end Go.Proofs.Qxb6630440a
