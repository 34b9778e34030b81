/-
  fgModelUnpack and fgSame.
-/
import Derived.Test.Qxb6630395aSplitWalk
import Derived.Test.Qxb6630395aModelPlain
namespace Go.Proofs.Qxb6630395a
open Go.RowKit

/-- what fgModelUnpack hands back -/
def ModelPost (w w' : World) (e : Ending) (z : Nat → Nat) (n : Nat) : Prop :=
  (okB z n = true → e = .returned (.tuple #[.slice (some ⟨w.heap.size, 0, none⟩) (5 * n / 8) (5 * n / 8), .bool true]) ∧ BytesAt w' (some ⟨w.heap.size, 0, none⟩) (5 * n / 8) (byteAt z) ∧ w.heap.size < w'.heap.size) ∧
  (okB z n = false → e = .returned (.tuple #[.slice none 0 0, .bool false])) ∧ Below w.heap.size w w'

theorem or_step {v b : Nat} (hb : b ≤ 1) : bits .or .u8 ((v : Int) * 2 % 256) (b : Int) = (((v * 2 % 256) ||| b : Nat) : Int) := by
  rw [← u8_or_nat _ _ (Nat.mod_lt _ (by decide)) (by omega)]
  congr 1

theorem v_step {B k b t : Nat} (hb : b ≤ 1) (h : (B / 2 ^ (8 - k) * 2 % 256) ||| b = t) : bits .or .u8 ((B : Int) / 2 ^ (8 - k) * 2 % 256) (b : Int) = (t : Int) := by
  rw [← h, ← or_step hb]
  simp

theorem v_step2 {B k b1 b2 t : Nat} (h1 : b1 ≤ 1) (h2 : b2 ≤ 1) (h : (B / 2 ^ (8 - k) * 2 % 256) ||| (b1 ||| b2) = t) : bits .or .u8 ((B : Int) / 2 ^ (8 - k) * 2 % 256) (bits .or .u8 (b1 : Int) (b2 : Int)) = (t : Int) := by
  rw [u8_or_nat b1 b2 (by omega) (by omega)]
  have hl : b1 ||| b2 ≤ 1 := by
    have := Nat.or_lt_two_pow (n := 1) (x := b1) (y := b2) (by omega) (by omega)
    omega
  exact v_step hl h

theorem int_eq {k : IntKind} {a b : Int} (h : a = b) : Value.int k a = Value.int k b := by rw [h]

set_option maxHeartbeats 1000000 in
set_option maxRecDepth 100000 in
theorem model_any (a : Option Addr) (n cap : Nat) (z : Nat → Nat) (w : World) (h : BytesAt w a n z) (hmax : n ≤ 2000000) :
    Calls Try.prog 6 #[.slice a n cap] w fun e w' => ModelPost w w' e z n := by
  have hlt0 := h.lt
  obtain ⟨hlen, hz, b, off, hc⟩ := h
  obtain ⟨i0, hi, hz0, hz1, hz2⟩ := info_parts info5
  obtain ⟨r, hr⟩ : ∃ r : Nat, r = 5 * n % 8 := ⟨_, rfl⟩
  have er : 5 * (n : Int) % 8 = (r : Int) := by rw [hr]; simp
  have ER : Hid (5 * (n : Int) % 8 = (r : Int)) := er
  have er1 : 5 * (n : Int) % 8 ≤ (r : Int) := Int.le_of_eq er
  have er2 : (r : Int) ≤ 5 * (n : Int) % 8 := Int.le_of_eq er.symm
  have HR : Hid (r = 5 * n % 8) := hr
  have hr8 : r < 8 := by omega
  clear hr er
  by_cases h5 : 5 ≤ r
  · have hok : okB z n = false := by have := HR.out; simp [okB]; omega
    go_enter Try.func6, Try.ntmps6
    go_wp2
    go_ret2
    exact ⟨(fun h => by rw [hok] at h; cases h), fun _ => rfl, Below.refl _ _⟩
  cases hok : okB z n with
  | false =>
    have hn : 0 < n := by
      rcases Nat.eq_zero_or_pos n with rfl | hp
      · simp [okB, Nat.mod_one] at hok
      · exact hp
    have hok' := hok
    rw [ok_last hz hn, ← HR.out] at hok'
    simp only [show r < 5 by omega, decide_true, Bool.true_and, beq_eq_false_iff_ne, ne_eq] at hok'
    have h0 : 0 < r := by
      rcases Nat.eq_zero_or_pos r with e | hp
      · rw [e] at hok'; simp [Nat.mod_one] at hok'
      · omega
    have HK : Hid (¬ z (n - 1) % 2 ^ r = 0) := hok'
    obtain ⟨ha, hK⟩ := hc (n - 1) (by omega)
    have hix := fun w => indexAt_byte (P := Try.prog) (cap := cap) (b := b) (off := off) 22 Try.underlying22 size5 (n - 1) (by omega : n - 1 < n) ha w
    rw [show ((n - 1 : Nat) : Int) = (n : Int) - 1 from by omega] at hix
    have hzl := hz (n - 1) (by omega)
    clear ha hc hok'
    have t24 : decide ((5 : Int) ≤ 5 * (n : Int) % 8) = false := by simp; omega
    have t26 : decide ((0 : Int) < 5 * (n : Int) % 8) = true := by simp; omega
    go_enter Try.func6, Try.ntmps6
    go_wp2
    go_loop [7] (fun i => ∃ k : Nat, k ≤ r ∧ i = .int .i64 k ∧ Hid (∀ b, b < k → z (n - 1) / 2 ^ b % 2 = 0)) (fun i => r - (intOf i).toNat)
    case atStart => exact ⟨0, by omega, rfl, fun b hb => absurd hb (Nat.not_lt_zero _)⟩
    case round =>
      obtain ⟨k, hk, rfl, hl⟩ := hrel
      by_cases hlt : k < r
      · have hm : z (n - 1) / 2 ^ k % 2 < 2 := Nat.mod_lt _ (by decide)
        by_cases ht : z (n - 1) / 2 ^ k % 2 = 0
        · have C := bit_any (z (n - 1)) k w hzl (by omega)
          rw [ht] at C
          have HT : Hid (z (n - 1) / 2 ^ k % 2 = 0) := ht
          clear ht hm
          go_wp2_with (go_at_call 10; refine C.mono ?_; rintro e w' ⟨rfl, rfl⟩)
          go_round
          case rel =>
            refine ⟨k + 1, by omega, by go_num, fun b hb => ?_⟩
            by_cases e : b = k
            · rw [e]; exact HT.out
            · exact hl.out b (by omega)
          case measure => simp [intOf]; omega
        · have C := bit_any (z (n - 1)) k w hzl (by omega)
          rw [show z (n - 1) / 2 ^ k % 2 = 1 by omega] at C
          clear ht hm
          go_wp2_with (go_at_call 10; refine C.mono ?_; rintro e w' ⟨rfl, rfl⟩)
          go_ret2
          exact ⟨(fun h => by rw [hok] at h; cases h), fun _ => rfl, Below.refl _ _⟩
      · exfalso
        exact HK.out (low_bits.2 (fun b hb => hl.out b (by omega)))
  | true =>
    obtain ⟨q, hq⟩ : ∃ q : Nat, q = 5 * n / 8 := ⟨_, rfl⟩
    have eq' : 5 * (n : Int) / 8 = (q : Int) := by rw [hq]; simp
    have EQ : Hid (5 * (n : Int) / 8 = (q : Int)) := eq'
    have eq1 : 5 * (n : Int) / 8 ≤ (q : Int) := Int.le_of_eq eq'
    have eq2 : (q : Int) ≤ 5 * (n : Int) / 8 := Int.le_of_eq eq'.symm
    have HQ : Hid (q = 5 * n / 8) := hq
    have hqb : q ≤ 2000000 := by omega
    clear hq eq'
    have t24 : decide ((5 : Int) ≤ 5 * (n : Int) % 8) = false := by simp; omega
    obtain ⟨t, ht⟩ : ∃ t : Bool, decide ((0 : Int) < 5 * (n : Int) % 8) = t := ⟨_, rfl⟩
    go_enter Try.func6, Try.ntmps6
    go_upto_if 26 with fail
    go_cut [2, 3, 6, 7] (fun _ _ _ _ wc => wc = w)
    case first =>
      cases t with
      | true =>
        have h0 : 0 < r := by simp at ht; omega
        have hn : 0 < n := by have := HR.out; omega
        have hok' := hok
        rw [ok_last hz hn, ← HR.out] at hok'
        simp only [show r < 5 by omega, decide_true, Bool.true_and, beq_iff_eq] at hok'
        have hlow := low_bits.1 hok'
        have HL : Hid (∀ b, b < r → z (n - 1) / 2 ^ b % 2 = 0) := hlow
        obtain ⟨ha, hK⟩ := hc (n - 1) (by omega)
        have hix := fun w => indexAt_byte (P := Try.prog) (cap := cap) (b := b) (off := off) 22 Try.underlying22 size5 (n - 1) (by omega : n - 1 < n) ha w
        rw [show ((n - 1 : Nat) : Int) = (n : Int) - 1 from by omega] at hix
        have hzl := hz (n - 1) (by omega)
        clear ha hc hok' hlow
        go_wp2
        go_loop [7] (fun i => ∃ k : Nat, k ≤ r ∧ i = .int .i64 k) (fun i => r - (intOf i).toNat)
        case atStart => exact ⟨0, by omega, rfl⟩
        case round =>
          obtain ⟨k, hk, rfl⟩ := hrel
          by_cases hlt : k < r
          · have C := bit_any (z (n - 1)) k w hzl (by omega)
            rw [HL.out k hlt] at C
            go_wp2_with (go_at_call 10; refine C.mono ?_; rintro e w' ⟨rfl, hw⟩; subst w')
            go_round
            case rel => exact ⟨k + 1, by omega, by go_num⟩
            case measure => simp [intOf]; omega
          · go_wp2
            go_meet
            case rel => rfl
      | false =>
        go_wp2
        go_meet
        case rel => rfl
    case rest =>
      subst hcut
      clear ht
      go_wp2_with (at_make; refine wpList_make_full _ rfl _ _ 22 rfl wc.heap.size 5 i0 (.int .u8 0) 1 Try.underlying22 hi hz0 hz1 _ _ _ _ q rfl rfl (by omega) (by omega) (by rw [hz2]; omega) (by unfold maxLen; omega) (Nat.le_refl _) ?_; intro w0 hown0 hgrow0)
      rw [made_vals (byteAt z)] at hown0
      go_loopw [10] (fun i wr => ∃ i' : Nat, i' ≤ q ∧ i = .int .i64 i' ∧ wr.ownsRow wc.heap.size 5 1 (.slice (some ⟨wc.heap.size, 0, none⟩) q q) q (vals (upto (byteAt z) i') q) ∧ Below wc.heap.size wc wr) (fun i _ => q - (intOf i).toNat)
      case atStart => exact ⟨0, Nat.zero_le _, rfl, hown0, (Below.refl _ _).grown hgrow0 (Nat.le_refl _) (fun k h => by cases h)⟩
      case round =>
        obtain ⟨i, hiq, rfl, hown, hbel⟩ := hrel
        by_cases hlt : i < q
        · have hc' : ∀ i, i < n → a = some ⟨b, off, none⟩ ∧ wr.cell? ⟨b, off + i, none⟩ = some (.int .u8 (z i : Int)) := fun i hi => by
            obtain ⟨e, c⟩ := hc i hi
            have hlt : b < wc.heap.size := hlt0 _ e (by omega)
            exact ⟨e, (hbel.cell (p := ⟨b, _, none⟩) hlt).trans c⟩
          clear hc
          have t48 : decide ((i : Int) < 5 * (n : Int) / 8) = true := by simp; omega
          go_wp2
          go_loop [12, 13] (fun v k => ∃ k' : Nat, k' ≤ 8 ∧ k = .int .i64 k' ∧ v = .int .u8 (byteAt z i / 2 ^ (8 - k') : Nat)) (fun _ k => 8 - (intOf k).toNat)
          case atStart => exact ⟨0, by decide, rfl, by rw [show byteAt z i / 2 ^ (8 - 0) = 0 from Nat.div_eq_of_lt (byteAt_lt z i)]; rfl⟩
          case round =>
            obtain ⟨k, hk, rfl, rfl⟩ := hrel
            by_cases hlk : k < 8
            · obtain ⟨m, hm⟩ : ∃ m : Nat, m = (8 * i + k) / 5 := ⟨_, rfl⟩
              obtain ⟨s, hs⟩ : ∃ s : Nat, s = (8 * i + k) % 5 := ⟨_, rfl⟩
              have em : (m : Int) = (8 * (i : Int) + (k : Int)) / 5 := by rw [hm]; simp
              have es : (s : Int) = (8 * (i : Int) + (k : Int)) % 5 := by rw [hs]; simp
              have hmn : m < n := by have := HQ.out; omega
              have hs5 : s < 5 := by omega
              obtain ⟨ha, hK⟩ := hc' m hmn
              have hix := fun w => indexAt_byte (P := Try.prog) (cap := cap) (b := b) (off := off) 22 Try.underlying22 size5 m hmn ha w
              rw [em] at hix
              have C1 := bit_any (z m) (4 - s) wr (hz m hmn) (by omega)
              rw [show ((4 - s : Nat) : Int) = 4 - (8 * (i : Int) + (k : Int)) % 5 by omega] at C1
              have HM : Hid (m = (8 * i + k) / 5) := hm
              have HS : Hid (s = (8 * i + k) % 5) := hs
              have EM : Hid ((m : Int) = (8 * (i : Int) + (k : Int)) / 5) := em
              have ES : Hid ((s : Int) = (8 * (i : Int) + (k : Int)) % 5) := es
              clear hm hs em es ha
              obtain ⟨b1, hb1⟩ : ∃ b1 : Nat, b1 = z m / 2 ^ (4 - s) % 2 := ⟨_, rfl⟩
              rw [← hb1] at C1
              have hb1' : b1 ≤ 1 := by omega
              have B1 : Hid (b1 = z m / 2 ^ (4 - s) % 2) := hb1
              have hfe : ((fillAt i : Nat) : Int) = (8 * ((i : Int) + 1) + 4) / 5 - 1 := by unfold fillAt; omega
              have FE : Hid (((fillAt i : Nat) : Int) = (8 * ((i : Int) + 1) + 4) / 5 - 1) := hfe
              have BS : Hid ((byteAt z i / 2 ^ (8 - k) * 2 % 256) ||| modelBit z i k = byteAt z i / 2 ^ (8 - (k + 1))) := byte_shift hz (by have := HQ.out; omega) hlk
              clear hb1 hfe
              by_cases c1 : 2 ≤ s
              · by_cases c2 : m + 1 ≤ fillAt i
                · have hf := fill_lt (na := n) (i := i) (by have := HQ.out; omega)
                  obtain ⟨ha2, hK2⟩ := hc' (m + 1) (by omega)
                  have hix2 := fun w => indexAt_byte (P := Try.prog) (cap := cap) (b := b) (off := off) 22 Try.underlying22 size5 (m + 1) (by omega : m + 1 < n) ha2 w
                  rw [show ((m + 1 : Nat) : Int) = (8 * (i : Int) + (k : Int)) / 5 + 1 by have := EM.out; omega] at hix2
                  have C2 := bit_any (z (m + 1)) (9 - s) wr (hz (m + 1) (by omega)) (by omega)
                  rw [show ((9 - s : Nat) : Int) = 9 - (8 * (i : Int) + (k : Int)) % 5 by have := ES.out; omega] at C2
                  obtain ⟨b2, hb2⟩ : ∃ b2 : Nat, b2 = z (m + 1) / 2 ^ (9 - s) % 2 := ⟨_, rfl⟩
                  rw [← hb2] at C2
                  have hb2' : b2 ≤ 1 := by omega
                  have t1 : decide ((2 : Int) ≤ (8 * (i : Int) + (k : Int)) % 5) = true := by have := ES.out; simp; omega
                  have t2 : decide ((8 * (i : Int) + (k : Int)) / 5 + 1 ≤ (8 * ((i : Int) + 1) + 4) / 5 - 1) = true := by have := EM.out; have := FE.out; simp; omega
                  have B2 : Hid (b2 = z (m + 1) / 2 ^ (9 - s) % 2) := hb2
                  have HV : Hid (modelBit z i k = b1 ||| b2) := by rw [B1.out, hb2]; have := HM.out; have := HS.out; subst m s; exact if_pos ⟨c1, c2⟩
                  clear ha2 hb2 hc' c1 c2
                  go_wp2_with fail
                  refine C1.mono ?_
                  rintro e w' ⟨rfl, hw⟩
                  subst w'
                  go_wp2_with fail
                  refine C2.mono ?_
                  rintro e w' ⟨rfl, hw⟩
                  subst w'
                  go_wp2
                  go_round
                  case rel => exact ⟨k + 1, by omega, by go_num, int_eq (v_step2 hb1' hb2' (by rw [← HV.out]; exact BS.out))⟩
                  case measure => simp [intOf]; omega
                · have t1 : decide ((2 : Int) ≤ (8 * (i : Int) + (k : Int)) % 5) = true := by have := ES.out; simp; omega
                  have t2 : decide ((8 * (i : Int) + (k : Int)) / 5 + 1 ≤ (8 * ((i : Int) + 1) + 4) / 5 - 1) = false := by have := EM.out; have := FE.out; simp; omega
                  have HV : Hid (modelBit z i k = b1) := by rw [B1.out]; have := HM.out; have := HS.out; subst m s; exact if_neg (fun h => c2 h.2)
                  clear hc' c1 c2
                  go_wp2_with fail
                  refine C1.mono ?_
                  rintro e w' ⟨rfl, hw⟩
                  subst w'
                  go_wp2
                  go_round
                  case rel => exact ⟨k + 1, by omega, by go_num, int_eq (v_step hb1' (by rw [← HV.out]; exact BS.out))⟩
                  case measure => simp [intOf]; omega
              · have t1 : decide ((2 : Int) ≤ (8 * (i : Int) + (k : Int)) % 5) = false := by have := ES.out; simp; omega
                have HV : Hid (modelBit z i k = b1) := by rw [B1.out]; have := HM.out; have := HS.out; subst m s; exact if_neg (fun h => c1 h.1)
                clear hc' c1
                go_wp2_with fail
                refine C1.mono ?_
                rintro e w' ⟨rfl, hw⟩
                subst w'
                go_wp2
                go_round
                case rel => exact ⟨k + 1, by omega, by go_num, int_eq (v_step hb1' (by rw [← HV.out]; exact BS.out))⟩
                case measure => simp [intOf]; omega
            · obtain rfl : k = 8 := by omega
              have hcg : wr.cell? ⟨wc.heap.size, i, none⟩ = some _ := (hown.cellAt i (by omega)).trans (vals_get _ _ _ hlt)
              have hfg := hown.frozenAt i
              clear hc'
              go_wp2
              have hst := hown.stored i (.int .u8 (byteAt z i : Int))
              rw [vals_set] at hst
              go_roundw
              case rel => exact ⟨i + 1, by omega, by go_num, hst.1, hbel.setCell (Nat.le_refl _) _⟩
              case measure => simp [intOf]; omega
        · obtain rfl : i = q := by omega
          rw [vals_full] at hown
          go_wp2
          go_ret2
          unfold ModelPost
          rw [← HQ.out]
          exact ⟨fun _ => ⟨rfl, bytesAt_of_owns hown (by unfold maxLen; omega) (fun i _ => byteAt_lt z i), (hown.lt _ rfl).2⟩, (fun h => by rw [hok] at h; cases h), hbel⟩

set_option maxHeartbeats 400000 in
theorem same_any (a1 : Option Addr) (n c1 : Nat) (a2 : Option Addr) (c2 : Nat) (f : Nat → Nat) (w : World) (h1 : BytesAt w a1 n f) (h2 : BytesAt w a2 n f) :
    Calls Try.prog 8 #[.slice a1 n c1, .slice a2 n c2] w fun e w' => e = .returned (.bool true) ∧ ∃ d, w' = w.drewN d := by
  obtain ⟨hl, hf, b1, o1, hc1⟩ := h1
  obtain ⟨_, _, b2, o2, hc2⟩ := h2
  unfold maxLen at hl
  go_enter Try.func8, Try.ntmps8
  go_wp2
  go_loopw [5] (fun i wr => ∃ k d : Nat, k ≤ n ∧ i = .int .i64 k ∧ wr = w.drewN d) (fun i _ => n - (intOf i).toNat)
  case atStart => exact ⟨0, 0, Nat.zero_le _, rfl, rfl⟩
  case round =>
    obtain ⟨k, d, hk, rfl, rfl⟩ := hrel
    by_cases hlt : k < n
    · obtain ⟨ha1, hK1⟩ := hc1 k hlt
      obtain ⟨ha2, hK2⟩ := hc2 k hlt
      have hix1 := fun w => indexAt_byte (P := Try.prog) (cap := c1) (b := b1) (off := o1) 22 Try.underlying22 size5 k hlt ha1 w
      have hix2 := fun w => indexAt_byte (P := Try.prog) (cap := c2) (b := b2) (off := o2) 22 Try.underlying22 size5 k hlt ha2 w
      clear ha1 ha2 hc1 hc2
      go_wp2
      go_quiet (fail)
      go_wp2
      go_roundw
      case rel => exact ⟨k + 1, _, by omega, by go_num, rfl⟩
      case measure => simp [intOf]; omega
    · go_wp2
      go_ret
      exact ⟨rfl, d, rfl⟩

end Go.Proofs.Qxb6630395a
