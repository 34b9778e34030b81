/-
  fgBit, fromGroups, ZZfromGroups.
-/
import Derived.Test.Qxb6630395aView
import Derived.Test.Qxb6630395aPlain
namespace Go.Proofs.Qxb6630395a
open Go.RowKit

theorem ret_int {k : IntKind} {a b : Int} (h : a = b) : Ending.returned (.int k a) = .returned (.int k b) := by rw [h]

theorem bit_val (x b : Nat) (hx : x < 256) : bits .and .u8 ((x : Int) / 2 ^ b) 1 = ((x / 2 ^ b % 2 : Nat) : Int) := by
  have h : x / 2 ^ b < 256 := Nat.lt_of_le_of_lt (Nat.div_le_self _ _) hx
  have := u8_and_nat (x / 2 ^ b) 1 h (by decide)
  rw [nat_mask1] at this
  rw [← this]
  simp

theorem bit_any (x b : Nat) (w : World) (hx : x < 256) (hb : b < 8) :
    Calls Try.prog 10 #[.int .u8 (x : Int), .int .i64 (b : Int)] w fun e w' => e = .returned (.int .u8 ((x / 2 ^ b % 2 : Nat) : Int)) ∧ w' = w := by
  go_enter Try.func10, Try.ntmps10
  go_wp2
  go_ret
  exact ⟨ret_int (bit_val x b hx), rfl⟩

/-- what fromGroups hands back -/
def FromPost (w w' : World) (e : Ending) (z : Nat → Nat) (len : Nat) : Prop :=
  (okB z len = true → e = .returned (.tuple #[.slice (some ⟨w.heap.size, 0, none⟩) (5 * len / 8) (len * 5 / 8), .nilIface]) ∧ BytesAt w' (some ⟨w.heap.size, 0, none⟩) (5 * len / 8) (byteAt z)) ∧
  (okB z len = false → ∃ v, e = .returned (.tuple #[.slice none 0 0, .iface 35 v])) ∧ Below w.heap.size w w' ∧ w.heap.size < w'.heap.size

set_option maxHeartbeats 400000 in
theorem from_any (a : Option Addr) (len cap : Nat) (z : Nat → Nat) (w : World) (h : BytesAt w a len z) (hmax : len ≤ 2000000) :
    Calls Try.prog 11 #[.slice a len cap] w fun e w' => FromPost w w' e z len := by
  have hlt0 := h.lt
  obtain ⟨hlen, hz, b, off, hc⟩ := h
  obtain ⟨i0, hi, hz0, hz1, hz2⟩ := info_parts info5
  go_enter Try.func11, Try.ntmps11
  go_wp2_with (at_make; refine wpList_make_own _ rfl _ _ 22 rfl w.heap.size 5 i0 (.int .u8 0) 1 Try.underlying22 hi hz0 hz1 _ _ _ (len * 5 / 8) rfl rfl (by omega) (by rw [hz2]; omega) (by unfold maxLen; omega) (Nat.le_refl _) ?_; intro w0 hown0 hgrow0)
  go_loopw [4, 5, 6, 16] (fun v acc bits i wr => ∃ k r : Nat, k ≤ len ∧ i = .int .i64 k ∧ bits = .int .i64 r ∧ r < 8 ∧ Hid (r = 5 * k % 8) ∧ acc = .int .u32 (accTo z k) ∧ v = .slice (some ⟨w.heap.size, 0, none⟩) (5 * k / 8) (len * 5 / 8) ∧
      wr.ownsRow w.heap.size 5 1 (.slice (some ⟨w.heap.size, 0, none⟩) (5 * k / 8) (len * 5 / 8)) (5 * k / 8) (vals (byteAt z) (5 * k / 8)) ∧ Below w.heap.size w wr ∧ w.heap.size < wr.heap.size) (fun _ _ _ i _ => len - (intOf i).toNat)
  case atStart =>
    exact ⟨0, 0, Nat.zero_le _, rfl, rfl, by decide, rfl, rfl, by simp, hown0, (Below.refl _ _).grown hgrow0 (Nat.le_refl _) (fun k h => by cases h), (hown0.lt _ rfl).2⟩
  case round =>
    obtain ⟨k, r, hk, rfl, rfl, hr8, hr, rfl, rfl, hown, hbel, hsize⟩ := hrel
    by_cases hlt : k < len
    · obtain ⟨ha, hK⟩ := hc k hlt
      have hix := fun w => indexAt_byte (P := Try.prog) (cap := cap) (b := b) (off := off) 22 Try.underlying22 size5 k hlt ha w
      have hblk : b < w.heap.size := hlt0 _ ha (by omega)
      have hK' : wr.cell? ⟨b, off + k, none⟩ = some (.int .u8 (z k : Int)) := (hbel.cell (p := ⟨b, _, none⟩) hblk).trans hK
      have hzk := hz k hlt
      clear ha hK
      by_cases h3 : 3 ≤ r
      · have e1 : 5 * k / 8 + 1 ≤ len * 5 / 8 := by have := hr.out; omega
        have HB : Hid (bits .or .u32 ((accTo z k : Int) * 32 % 4294967296) (z k : Int) / 2 ^ (r - 3) % 256 = ((byteAt z (5 * k / 8) : Nat) : Int)) := byte_step hr.out h3 hzk
        go_wp2_with (at_builtin; (refine wpList_append_fits _ rfl _ _ 22 rfl w.heap.size 5 i0 1 Try.underlying22 hi hz1 w.heap.size (5 * k / 8) (len * 5 / 8) _ rfl (hown.alloc _) ⟨wr.heap.size, 0, none⟩ 1 1 [.int .u8 (bits .or .u32 ((accTo z k : Int) * 32 % 4294967296) (z k : Int) / 2 ^ (r - 3) % 256)] rfl rfl (cell_one_new _ _ _) (ints_oneCell .u8 [_]) e1 ?_); intro w1 hown1 hgrow1)
        rw [HB.out, vals_succ] at hown1
        have ek : 5 * (k + 1) / 8 = 5 * k / 8 + 1 := by have := hr.out; omega
        have HA : Hid (bits .or .u32 ((accTo z k : Int) * 32 % 4294967296) (z k : Int) = (accTo z (k + 1) : Nat)) := acc_step _ _ hzk
        go_roundw
        case rel =>
          refine ⟨k + 1, r - 3, by omega, by go_num, by go_num, by omega, by have := hr.out; exact (by omega : r - 3 = 5 * (k + 1) % 8), by rw [HA.out], by rw [ek], by rw [ek]; exact hown1, ?_, ?_⟩
          · exact (hbel.alloc hbel.size _).grown hgrow1 (by simp; have := hbel.size; omega) (fun j hj => by cases hj; exact Nat.le_refl _)
          · have := hgrow1.size
            simp at this
            omega
        case measure => simp [intOf]; omega
      · have ek : 5 * (k + 1) / 8 = 5 * k / 8 := by have := hr.out; omega
        have HA : Hid (bits .or .u32 ((accTo z k : Int) * 32 % 4294967296) (z k : Int) = (accTo z (k + 1) : Nat)) := acc_step _ _ hzk
        go_wp2
        go_roundw
        case rel =>
          exact ⟨k + 1, r + 5, by omega, by go_num, by go_num, by omega, by have := hr.out; exact (by omega : r + 5 = 5 * (k + 1) % 8), by rw [HA.out], by rw [ek], by rw [ek]; exact hown, hbel, hsize⟩
        case measure => simp [intOf]; omega
    · obtain rfl : k = len := by omega
      have hA := accTo_lt hz k (Nat.le_refl _)
      cases hok : okB z k with
      | true =>
        obtain ⟨h5, ht⟩ := test_ok hr.out hA hok
        go_wp2
        go_ret2
        refine ⟨fun _ => ⟨rfl, bytesAt_of_owns hown (by unfold maxLen; omega) (fun i _ => byteAt_lt z i)⟩, (fun h => by rw [hok] at h; cases h), hbel, hsize⟩
      | false =>
        by_cases h5 : r < 5
        · have ht := test_bad hr.out hA hok h5
          go_wp2
          go_ret2
          refine ⟨(fun h => by rw [hok] at h; cases h), fun _ => ⟨_, rfl⟩, hbel.alloc hbel.size _, by simp; omega⟩
        · go_wp2
          go_ret2
          refine ⟨(fun h => by rw [hok] at h; cases h), fun _ => ⟨_, rfl⟩, hbel.alloc hbel.size _, by simp; omega⟩

theorem zzfrom_any (a : Option Addr) (len cap : Nat) (z : Nat → Nat) (w : World) (h : BytesAt w a len z) (hmax : len ≤ 2000000) :
    Calls Try.prog 7 #[.slice a len cap] w fun e w' => FromPost w w' e z len := by
  cases hok : okB z len with
  | true =>
    go_enter Try.func7, Try.ntmps7
    go_wp2_with fail
    refine (from_any a len cap z w h hmax).mono ?_
    rintro e w' ⟨h1, h2, hb, hs⟩
    obtain ⟨rfl, hB⟩ := h1 hok
    go_wp2
    go_ret2
    exact ⟨fun _ => ⟨rfl, hB⟩, (fun h => by rw [hok] at h; cases h), hb, hs⟩
  | false =>
    go_enter Try.func7, Try.ntmps7
    go_wp2_with fail
    refine (from_any a len cap z w h hmax).mono ?_
    rintro e w' ⟨h1, h2, hb, hs⟩
    obtain ⟨v, rfl⟩ := h2 hok
    go_wp2
    go_ret2
    exact ⟨(fun h => by rw [hok] at h; cases h), fun _ => ⟨_, rfl⟩, hb, hs⟩

end Go.Proofs.Qxb6630395a
