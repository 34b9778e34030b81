/-
  FnApplySettingsMatchesMerge: the walk.
-/
import Derived.Test.Qxb6630350aCount
import Derived.Test.Qxb6630350aBytes
import Derived.WalkSmall
namespace Go.Proofs.Qxb6630350a
open Go.Maps Go.RowKit

theorem modelM_any (a1 : Option Addr) (n1 c1 : Nat) (K1 V1 : Nat → ByteArray) (a2 : Option Addr) (n2 c2 : Nat) (K2 V2 : Nat → ByteArray) (x : ByteArray) (w : World) (h1 : KVs w a1 n1 c1 K1 V1) (h2 : KVs w a2 n2 c2 K2 V2) :
    Calls Try.prog 11 #[.slice a1 n1 c1, .slice a2 n2 c2, .string x] w fun e w' => e = .returned (.tuple #[.string (lastV (merged K1 V1 n1 K2 V2 n2 x)), .bool (merged K1 V1 n1 K2 V2 n2 x).isSome]) ∧ w' = w := model_any a1 n1 c1 K1 V1 a2 n2 c2 K2 V2 x w h1 h2

theorem keyAt_size {w : World} {a1 : Option Addr} {n1 c1 : Nat} {K1 V1 : Nat → ByteArray} {a2 : Option Addr} {n2 c2 : Nat} {K2 V2 : Nat → ByteArray} {i : Nat} (h1 : KVs w a1 n1 c1 K1 V1) (h2 : KVs w a2 n2 c2 K2 V2) (hi : i < n1 + n2) : (keyAt n1 K1 K2 i).size ≤ maxLen := by
  unfold keyAt
  split
  · exact (h1.2.1 _ ‹_›).1
  · exact (h2.2.1 _ (by omega)).1

theorem beq_nat {a b : Nat} (h : a = b) : ((a : Int) == (b : Int)) = true := by rw [h]; exact beq_self_eq_true _

theorem KVs.drewN {w : World} {a : Option Addr} {len cap : Nat} {K V : Nat → ByteArray} (h : KVs w a len cap K V) (d : Nat) : KVs (w.drewN d) a len cap K V := h

set_option maxHeartbeats 1000000 in
set_option maxRecDepth 100000 in
theorem merge_walk (a1 : Option Addr) (n1 c1 : Nat) (K1 V1 : Nat → ByteArray) (a2 : Option Addr) (n2 c2 : Nat) (K2 V2 : Nat → ByteArray) (w : World) (h1 : KVs w a1 n1 c1 K1 V1) (h2 : KVs w a2 n2 c2 K2 V2) :
    Calls Try.prog 3 #[.slice a1 n1 c1, .slice a2 n2 c2] w fun e w' => e = .returned (.bool true) ∧ Below w.heap.size w w' := by
  have hl1 := h1.1
  have hl2 := h2.1
  unfold maxLen at hl1 hl2
  go_enter Try.func3, Try.ntmps3
  go_wp2_with fail
  refine (guard5_any a1 n1 c1 K1 V1 a2 n2 c2 K2 V2 _ h1 h2).mono ?_
  rintro e w' ⟨⟨x, rfl⟩, hw⟩
  subst w'
  cases x with
  | false =>
    go_wp2
    go_ret
    exact ⟨rfl, Below.refl _ _⟩
  | true =>
  by_cases g1 : 4096 < n1
  · go_wp2
    go_ret
    exact ⟨rfl, Below.refl _ _⟩
  by_cases g2 : 4096 < n2
  · go_wp2
    go_ret
    exact ⟨rfl, Below.refl _ _⟩
  go_wp2_with fail
  refine (bytes_any a1 n1 c1 K1 V1 0 _ h1).mono ?_
  rintro e w' ⟨x1, rfl, d1, rfl⟩
  by_cases g3 : 1048576 < x1
  · go_wp2
    go_ret
    exact ⟨rfl, below_drewN (Below.refl _ _) _⟩
  go_wp2_with fail
  refine (bytes_any a2 n2 c2 K2 V2 x1 _ (h2.drewN d1)).mono ?_
  rintro e w' ⟨x2, rfl, d2, hw⟩
  subst w'
  by_cases g4 : 1048576 < x2
  · go_wp2
    go_ret
    exact ⟨rfl, below_drewN (Below.refl _ _) _⟩
  rw [World.drewN_drewN]
  go_wp2_with fail
  refine (build_any a1 n1 c1 K1 V1 _ (h1.drewN _) (by omega)).mono ?_
  rintro e w1 ⟨rfl, hm1, hb1, hs1⟩
  rw [World.heap_drewN] at hm1 hb1 hs1 ⊢
  have k1 : KVs w1 a1 n1 c1 K1 V1 := h1.below ((below_drewN (Below.refl _ _) _).trans hb1) h1.lt
  have k2 : KVs w1 a2 n2 c2 K2 V2 := h2.below ((below_drewN (Below.refl _ _) _).trans hb1) h2.lt
  go_wp2_with fail
  refine (build_any a2 n2 c2 K2 V2 _ k2 (by omega)).mono ?_
  rintro e w2 ⟨rfl, hm2, hb2, hs2⟩
  have hm1' := hm1.below hb2 hs1
  have k1' := k1.below hb2 k1.lt
  have k2' := k2.below hb2 k2.lt
  have hB2 : Below w.heap.size w w2 := ((below_drewN (Below.refl _ _) _).trans hb1).trans (hb2.mono (by omega))
  go_wp2_with fail
  refine (apply_any w.heap.size n1 w1.heap.size n2 (lastOf K1 V1 n1) (lastOf K2 V2 n2) _ hm1' hm2 (by omega) (by omega)).mono ?_
  rintro e w3 ⟨rfl, hm3, hg3⟩
  have hB3 : Below w.heap.size w w3 := hB2.grown hg3 (by have := hB2.size; omega) (fun j hj => by cases hj; exact Nat.le_refl _)
  have q1 := h1.below hB3 h1.lt
  have q2 := h2.below hB3 h2.lt
  have hm : MapAt w3 w.heap.size (n1 + n2) (merged K1 V1 n1 K2 V2 n2) := hm3
  clear hm1 hm2 hm1' k1 k2 k1' k2' hb1 hb2 hg3 hm3 hB2 hs1 hs2
  have hc0 := countTo_le (keyAt n1 K1 K2) (merged K1 V1 n1 K2 V2 n2) (seenB n1 K1 K2)
  go_wp2
  go_loop [9, 10] (fun s i => ∃ k : Nat, k ≤ n1 + n2 ∧ i = .int .i64 k ∧ s = .int .i64 (countTo (keyAt n1 K1 K2) (merged K1 V1 n1 K2 V2 n2) (seenB n1 K1 K2) k)) (fun _ i => n1 + n2 - (intOf i).toNat)
  case atStart => exact ⟨0, Nat.zero_le _, rfl, rfl⟩
  case round =>
    obtain ⟨k, hk, rfl, rfl⟩ := hrel
    have hck := hc0 k
    by_cases hlt : k < n1 + n2
    · have hks := keyAt_size q1 q2 hlt
      cases hs : seenB n1 K1 K2 k with
      | true =>
        have HC : Hid (countTo (keyAt n1 K1 K2) (merged K1 V1 n1 K2 V2 n2) (seenB n1 K1 K2) (k + 1) = countTo (keyAt n1 K1 K2) (merged K1 V1 n1 K2 V2 n2) (seenB n1 K1 K2) k) := countTo_seen hs
        go_wp2_with (go_at_call 9; refine (seen_any _ _ _ _ _ _ _ _ _ _ k _ q1 q2 hlt (by omega)).mono ?_; rintro e w' ⟨rfl, rfl⟩)
        go_round
        case rel => exact ⟨k + 1, by omega, by go_num, by rw [HC.out]⟩
        case measure => simp [intOf]; omega
      | false =>
        cases hf : (merged K1 V1 n1 K2 V2 n2 (keyAt n1 K1 K2 k)).isSome with
        | true =>
          have HC : Hid (countTo (keyAt n1 K1 K2) (merged K1 V1 n1 K2 V2 n2) (seenB n1 K1 K2) (k + 1) = countTo (keyAt n1 K1 K2) (merged K1 V1 n1 K2 V2 n2) (seenB n1 K1 K2) k + 1) := countTo_yes hs hf
          go_wp2_with (first
            | (go_at_call 9; refine (seen_any _ _ _ _ _ _ _ _ _ _ k _ q1 q2 hlt (by omega)).mono ?_; rintro e w' ⟨rfl, rfl⟩)
            | (go_at_call 10; refine (keyAt_any _ _ _ _ _ _ _ _ _ _ k _ q1 q2 hlt).mono ?_; rintro e w' ⟨rfl, rfl⟩)
            | (go_at_call 11; refine (modelM_any _ _ _ _ _ _ _ _ _ _ (keyAt n1 K1 K2 k) _ q1 q2).mono ?_; rintro e w' ⟨rfl, rfl⟩)
            | (at_lookup; refine wpList_lookup_at _ rfl _ _ rfl w.heap.size _ _ rfl hm (keyAt n1 K1 K2 k) rfl hks ?_))
          go_round
          case rel => exact ⟨k + 1, by omega, by go_num, by rw [HC.out]; go_num⟩
          case measure => simp [intOf]; omega
        | false =>
          have HC : Hid (countTo (keyAt n1 K1 K2) (merged K1 V1 n1 K2 V2 n2) (seenB n1 K1 K2) (k + 1) = countTo (keyAt n1 K1 K2) (merged K1 V1 n1 K2 V2 n2) (seenB n1 K1 K2) k) := countTo_no hs hf
          go_wp2_with (first
            | (go_at_call 9; refine (seen_any _ _ _ _ _ _ _ _ _ _ k _ q1 q2 hlt (by omega)).mono ?_; rintro e w' ⟨rfl, rfl⟩)
            | (go_at_call 10; refine (keyAt_any _ _ _ _ _ _ _ _ _ _ k _ q1 q2 hlt).mono ?_; rintro e w' ⟨rfl, rfl⟩)
            | (go_at_call 11; refine (modelM_any _ _ _ _ _ _ _ _ _ _ (keyAt n1 K1 K2 k) _ q1 q2).mono ?_; rintro e w' ⟨rfl, rfl⟩)
            | (at_lookup; refine wpList_lookup_at _ rfl _ _ rfl w.heap.size _ _ rfl hm (keyAt n1 K1 K2 k) rfl hks ?_))
          go_round
          case rel => exact ⟨k + 1, by omega, by go_num, by rw [HC.out]⟩
          case measure => simp [intOf]; omega
    · obtain rfl : k = n1 + n2 := by omega
      go_wp2_with (at_len; refine wpList_len_at _ rfl _ rfl w.heap.size _ _ rfl hm ?_; intro D hD)
      go_ret
      refine ⟨?_, hB3⟩
      exact ret_bool (beq_nat (size_is_count (key := keyAt n1 K1 K2) (seen := seenB n1 K1 K2) (fun _ => rfl) hD (n1 + n2) (fun x hx => merged_cov hx)))

end Go.Proofs.Qxb6630350a
