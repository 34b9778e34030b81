/-
  FnApplySettingsUndoRestores: the walk.
-/
import Derived.Test.Qxb6630350aMergeWalk
import Derived.Test.Qxb6630350aUndoPlain
namespace Go.Proofs.Qxb6630350a
open Go.Maps Go.RowKit

theorem wpList_lookup_eq {ops : Array Oper} {rest : List Oper} {o : Oper} {a : Act} {Q : Exit → Act → World → Prop} (w : World) (hg : o.guard = none) (m x : Operand) (hop : o.op = Op.lookup 25 m x true) (b n : Nat) (f : ByteArray → Option ByteArray) (hm : a.eval m = .map (some b)) (h : MapAt w b n f) (k : ByteArray) (hx : a.eval x = .string k) (hk : k.size ≤ maxLen)
    (r : Option ByteArray) (hr : f k = r) (v : ByteArray) (hv : lastV r = v) (t : Bool) (ht : r.isSome = t)
    (hK : wpList Try.prog ops Q rest (a.put o.dst (.tuple #[.string v, .bool t])) w) : wpList Try.prog ops Q (o :: rest) a w := by
  subst hr hv ht
  exact wpList_lookup_at w hg m x hop b n f hm h k hx hk hK

theorem undo_step {K1 V1 : Nat → ByteArray} {n1 : Nat} {K2 : Nat → ByteArray} {j : Nat} {u : ByteArray} (h : lastV (lastOf K1 V1 n1 (K2 j)) = u) (x : ByteArray) : putF (undoTo K1 V1 n1 K2 j) (K2 j) u x = undoTo K1 V1 n1 K2 (j + 1) x := by
  rw [← h]; rfl

set_option maxHeartbeats 2000000 in
set_option maxRecDepth 100000 in
theorem undo_walk (a1 : Option Addr) (n1 c1 : Nat) (K1 V1 : Nat → ByteArray) (a2 : Option Addr) (n2 c2 : Nat) (K2 V2 : Nat → ByteArray) (w : World) (h1 : KVs w a1 n1 c1 K1 V1) (h2 : KVs w a2 n2 c2 K2 V2) :
    Calls Try.prog 4 #[.slice a1 n1 c1, .slice a2 n2 c2] w fun e w' => e = .returned (.bool true) ∧ Below w.heap.size w w' := by
  have hl1 := h1.1
  have hl2 := h2.1
  have hmm := @run_makeMap Try.prog
  unfold maxLen at hl1 hl2
  go_enter Try.func4, Try.ntmps4
  go_wp2_with fail
  refine (guard12_any a1 n1 c1 K1 V1 a2 n2 c2 K2 V2 _ h1 h2).mono ?_
  rintro e w' ⟨⟨x, rfl⟩, hw⟩
  subst w'
  cases x with
  | false =>
    go_wp2
    go_ret
    exact ⟨rfl, Below.refl _ _⟩
  | true =>
  by_cases g1 : 4096 < n1
  · go_wp2
    go_ret
    exact ⟨rfl, Below.refl _ _⟩
  by_cases g2 : 4096 < n2
  · go_wp2
    go_ret
    exact ⟨rfl, Below.refl _ _⟩
  go_wp2_with fail
  refine (bytes_any a1 n1 c1 K1 V1 0 _ h1).mono ?_
  rintro e w' ⟨x1, rfl, d1, hw⟩
  subst w'
  by_cases g3 : 1048576 < x1
  · go_wp2
    go_ret
    exact ⟨rfl, below_drewN (Below.refl _ _) _⟩
  go_wp2_with fail
  refine (bytes_any a2 n2 c2 K2 V2 x1 _ (h2.drewN d1)).mono ?_
  rintro e w' ⟨x2, rfl, d2, hw⟩
  subst w'
  by_cases g4 : 1048576 < x2
  · go_wp2
    go_ret
    exact ⟨rfl, below_drewN (Below.refl _ _) _⟩
  rw [World.drewN_drewN]
  go_wp2_with fail
  go_loop [6] (fun i => ∃ k : Nat, k ≤ n1 ∧ i = .int .i64 k ∧ Hid (∀ j, j < k → (V1 j).toList.isEmpty = false)) (fun i => n1 - (intOf i).toNat)
  case atStart => exact ⟨0, Nat.zero_le _, rfl, fun j hj => absurd hj (Nat.not_lt_zero _)⟩
  case round =>
    obtain ⟨k, hk, rfl, hv⟩ := hrel
    by_cases hlt : k < n1
    · obtain ⟨_, _, b, off, hc⟩ := h1
      obtain ⟨ha, hK, hV⟩ := hc k hlt
      have hix := fun w => indexAt_kv (P := Try.prog) (cap := c1) (b := b) (off := off) 22 Try.underlying22 size33 k hlt ha w
      clear ha h2 hc
      go_wp2
      · go_ret
        exact ⟨rfl, below_drewN (Below.refl _ _) _⟩
      · have hs : (V1 k).toList.isEmpty = false := by assumption
        go_round
        case rel =>
          refine ⟨k + 1, by omega, by go_num, fun j hj => ?_⟩
          by_cases e : j = k
          · subst e; exact hs
          · exact hv.out j (by omega)
        case measure => simp [intOf]; omega
    · obtain rfl : k = n1 := by omega
      go_wp2_with fail
      refine (build_any a1 k c1 K1 V1 _ (h1.drewN _) (by omega)).mono ?_
      rintro e w1 ⟨rfl, hm1, hb1, hs1⟩
      rw [World.heap_drewN] at hm1 hb1 hs1 ⊢
      have hB1 : Below w.heap.size w w1 := (below_drewN (Below.refl _ _) _).trans hb1
      have k2 : KVs w1 a2 n2 c2 K2 V2 := h2.below hB1 h2.lt
      go_wp2_with fail
      refine (build_any a2 n2 c2 K2 V2 _ k2 (by omega)).mono ?_
      rintro e w2 ⟨rfl, hm2, hb2, hs2⟩
      have hm1' := hm1.below hb2 hs1
      have hB2 : Below w.heap.size w w2 := hB1.trans (hb2.mono (by omega))
      clear hm1 k2 hb1 hb2 hB1
      go_wp2_with fail
      have hlt1 := h1.lt
      have hlt2 := h2.lt
      have hws2 := hB2.size
      go_loopw [10] (fun i wr => ∃ j : Nat, j ≤ n2 ∧ i = .int .i64 j ∧ MapAt wr w2.heap.size j (undoTo K1 V1 k K2 j) ∧ Below w2.heap.size w2 wr ∧ w2.heap.size < wr.heap.size) (fun i _ => n2 - (intOf i).toNat)
      case atStart => exact ⟨0, Nat.zero_le _, rfl, MapAt.made w2, (Below.refl _ _).alloc (Nat.le_refl _) _, by simp⟩
      case round =>
        obtain ⟨j, hj, rfl, hm, hbel, hsize⟩ := hrel
        have hB : Below w.heap.size w wr := hB2.trans (hbel.mono hws2)
        have q1 := h1.below hB hlt1
        have q2 := h2.below hB hlt2
        by_cases hltj : j < n2
        · obtain ⟨_, hsz, b, off, hc⟩ := q2
          obtain ⟨ha, hK, hV⟩ := hc j hltj
          have hix := fun w => indexAt_kv (P := Try.prog) (cap := c2) (b := b) (off := off) 22 Try.underlying22 size33 j hltj ha w
          have hks := (hsz j hltj).1
          have hvs := lastV_size q1 (K2 j)
          clear ha hc hsz hV h1 h2 hm1' hm2
          cases ho : lastOf K1 V1 k (K2 j) with
          | none =>
            go_wp2_with (first
              | (go_at_call 13; refine (last_any _ _ _ _ _ (K2 j) _ q1).mono ?_; rintro e w' ⟨rfl, rfl⟩)
              | (at_mapUpdate; refine wpList_store_at _ rfl _ _ _ rfl w2.heap.size j _ rfl hm (by unfold maxLen; omega) (K2 j) ⟨#[]⟩ rfl rfl hks (Nat.zero_le _) ?_; intro w3 hm3 ht3; go_frame))
            have hg3 := ht3.grown
            go_roundw
            case rel => exact ⟨j + 1, by omega, by go_num, hm3.congr (undo_step (by rw [ho]; rfl)), hbel.grown hg3 hbel.size (fun i hi => by cases hi; exact Nat.le_refl _), Nat.lt_of_lt_of_le hsize hg3.size⟩
            case measure => simp [intOf]; omega
          | some u =>
            go_wp2_with (first
              | (go_at_call 13; refine (last_any _ _ _ _ _ (K2 j) _ q1).mono ?_; rintro e w' ⟨rfl, rfl⟩)
              | (at_mapUpdate; refine wpList_store_at _ rfl _ _ _ rfl w2.heap.size j _ rfl hm (by unfold maxLen; omega) (K2 j) (lastV (lastOf K1 V1 k (K2 j))) rfl (by rw [ho]; rfl) hks hvs ?_; intro w3 hm3 ht3; go_frame))
            have hg3 := ht3.grown
            go_roundw
            case rel => exact ⟨j + 1, by omega, by go_num, hm3.congr (undo_step rfl), hbel.grown hg3 hbel.size (fun i hi => by cases hi; exact Nat.le_refl _), Nat.lt_of_lt_of_le hsize hg3.size⟩
            case measure => simp [intOf]; omega
        · obtain rfl : j = n2 := by omega
          have hmA := hm1'.below hbel (by omega)
          have hmB := hm2.below hbel hs2
          clear hm1' hm2
          go_wp2_with fail
          refine (apply_any w.heap.size k w1.heap.size j (lastOf K1 V1 k) (lastOf K2 V2 j) _ hmA hmB (by omega) (by omega)).mono ?_
          rintro e w4 ⟨rfl, hm4, hg4⟩
          have hU := hm.kept hg4 (fun e => by have := Option.some.inj e; omega)
          have hM : MapAt w4 w.heap.size (k + j) (merged K1 V1 k K2 V2 j) := hm4
          have hB4 : Below w.heap.size w w4 := hB.grown hg4 hB.size (fun i hi => by cases hi; exact Nat.le_refl _)
          have q1' := h1.below hB4 hlt1
          have q2' := h2.below hB4 hlt2
          have hw4 := hg4.size
          clear hmA hmB hm hm4 hg4 q1 q2 hbel hB hB2
          go_wp2
          go_loop [14] (fun i => ∃ i' : Nat, i' ≤ j ∧ i = .int .i64 i') (fun i => j - (intOf i).toNat)
          case atStart => exact ⟨0, Nat.zero_le _, rfl⟩
          case round =>
            obtain ⟨i, hi, rfl⟩ := hrel
            by_cases hlti : i < j
            · obtain ⟨u, hu⟩ := lastOf_some (K := K2) (V := V2) hlti
              have hmg : merged K1 V1 k K2 V2 j (K2 i) = if u.toList.isEmpty then none else some u := by rw [merged, hu]; rfl
              have CL : Calls Try.prog 13 #[.slice a2 j c2, .string (K2 i)] w4 fun e w' => e = .returned (.tuple #[.string u, .bool true]) ∧ w' = w4 := by
                have := last_any a2 j c2 K2 V2 (K2 i) w4 q2'
                rw [hu] at this
                exact this
              obtain ⟨_, hsz, b, off, hc⟩ := q2'
              obtain ⟨ha, hK, hV⟩ := hc i hlti
              have hix := fun w => indexAt_kv (P := Try.prog) (cap := c2) (b := b) (off := off) 22 Try.underlying22 size33 i hlti ha w
              have hks := (hsz i hlti).1
              have Hmg : Hid (merged K1 V1 k K2 V2 j (K2 i) = if u.toList.isEmpty then none else some u) := hmg
              clear ha hc hsz hV hmg hu
              cases hem : u.toList.isEmpty with
              | true =>
                go_wp2_with (first
                  | (go_at_call 13; refine CL.mono ?_; rintro e w' ⟨rfl, rfl⟩)
                  | (at_lookup; refine wpList_lookup_eq _ rfl _ _ rfl w.heap.size _ _ rfl hM (K2 i) rfl hks none (by rw [Hmg.out, hem]; rfl) ⟨#[]⟩ rfl false rfl ?_))
                go_round
                case rel => exact ⟨i + 1, by omega, by go_num⟩
                case measure => simp [intOf]; omega
              | false =>
                go_wp2_with (first
                  | (go_at_call 13; refine CL.mono ?_; rintro e w' ⟨rfl, rfl⟩)
                  | (at_lookup; refine wpList_lookup_eq _ rfl _ _ rfl w.heap.size _ _ rfl hM (K2 i) rfl hks (some u) (by rw [Hmg.out, hem]; rfl) u rfl true rfl ?_))
                go_round
                case rel => exact ⟨i + 1, by omega, by go_num⟩
                case measure => simp [intOf]; omega
            · go_wp2_with fail
              refine (apply_any w.heap.size (k + j) w2.heap.size j (merged K1 V1 k K2 V2 j) (undoTo K1 V1 k K2 j) _ hM hU (by omega) (by omega)).mono ?_
              rintro e w5 ⟨rfl, hm5, hg5⟩
              have hB5 : Below w.heap.size w w5 := hB4.grown hg5 hB4.size (fun i hi => by cases hi; exact Nat.le_refl _)
              have hF : MapAt w5 w.heap.size (k + j + j) (lastOf K1 V1 k) := hm5.congr (undone hv.out)
              have r1 := h1.below hB5 hlt1
              clear hm5 hg5 hM hU q1' q2' h1 h2 hB4
              have hc0 := countTo_le (keyAt k K1 K1) (lastOf K1 V1 k) (seenB k K1 K1)
              go_wp2
              go_loop [20, 21] (fun s i => ∃ i' : Nat, i' ≤ k ∧ i = .int .i64 i' ∧ s = .int .i64 (countTo (keyAt k K1 K1) (lastOf K1 V1 k) (seenB k K1 K1) i')) (fun _ i => k - (intOf i).toNat)
              case atStart => exact ⟨0, Nat.zero_le _, rfl, rfl⟩
              case round =>
                obtain ⟨i, hi, rfl, rfl⟩ := hrel
                have hck := hc0 i
                by_cases hlti : i < k
                · have SN := seen_any a1 k c1 K1 V1 none 0 0 K1 V1 i w5 r1 (KVs.nil _ _ _) (by omega) (by omega)
                  cases hs : seenB k K1 K1 i with
                  | true =>
                    have HC : Hid (countTo (keyAt k K1 K1) (lastOf K1 V1 k) (seenB k K1 K1) (i + 1) = countTo (keyAt k K1 K1) (lastOf K1 V1 k) (seenB k K1 K1) i) := countTo_seen hs
                    rw [hs] at SN
                    clear r1
                    go_wp2_with (go_at_call 9; refine SN.mono ?_; rintro e w' ⟨rfl, rfl⟩)
                    go_round
                    case rel => exact ⟨i + 1, by omega, by go_num, by rw [HC.out]⟩
                    case measure => simp [intOf]; omega
                  | false =>
                    obtain ⟨u, hu⟩ := lastOf_some (K := K1) (V := V1) hlti
                    have HC : Hid (countTo (keyAt k K1 K1) (lastOf K1 V1 k) (seenB k K1 K1) (i + 1) = countTo (keyAt k K1 K1) (lastOf K1 V1 k) (seenB k K1 K1) i + 1) := countTo_yes hs (by rw [keyAt_self hlti, hu]; rfl)
                    rw [hs] at SN
                    have CL : Calls Try.prog 13 #[.slice a1 k c1, .string (K1 i)] w5 fun e w' => e = .returned (.tuple #[.string u, .bool true]) ∧ w' = w5 := by
                      have := last_any a1 k c1 K1 V1 (K1 i) w5 r1
                      rw [hu] at this
                      exact this
                    have HU : Hid (lastOf K1 V1 k (K1 i) = some u) := hu
                    obtain ⟨_, hsz, b, off, hc⟩ := r1
                    obtain ⟨ha, hK, hV⟩ := hc i hlti
                    have hix := fun w => indexAt_kv (P := Try.prog) (cap := c1) (b := b) (off := off) 22 Try.underlying22 size33 i hlti ha w
                    have hks := (hsz i hlti).1
                    clear ha hc hsz hV hu
                    go_wp2_with (first
                      | (go_at_call 9; refine SN.mono ?_; rintro e w' ⟨rfl, rfl⟩)
                      | (go_at_call 13; refine CL.mono ?_; rintro e w' ⟨rfl, rfl⟩)
                      | (at_lookup; refine wpList_lookup_eq _ rfl _ _ rfl w.heap.size _ _ rfl hF (K1 i) rfl hks (some u) HU.out u rfl true rfl ?_))
                    go_round
                    case rel => exact ⟨i + 1, by omega, by go_num, by rw [HC.out]; go_num⟩
                    case measure => simp [intOf]; omega
                · obtain rfl : i = k := by omega
                  go_wp2_with (at_len; refine wpList_len_at _ rfl _ rfl w.heap.size _ _ rfl hF ?_; intro D hD)
                  go_ret
                  refine ⟨?_, hB5⟩
                  exact ret_bool (beq_nat (size_is_count (key := keyAt i K1 K1) (seen := seenB i K1 K1) (fun _ => rfl) hD i (fun x hx => self_cov hx)))

end Go.Proofs.Qxb6630350a
