/-
  cloneBytes, hasPrefix, eqBS, hasByte, the guards on lengths.
-/
import Derived.Test.Qxb6630440aAppend
namespace Go.Proofs.Qxb6630440a
open Go.RowKit

/-- the first k bytes of l, then noughts -/
def fillTo (l : List UInt8) (k : Nat) : List UInt8 := (List.range l.length).map fun i => if i < k then l.getD i 0 else 0

theorem fillTo_len (l : List UInt8) (k : Nat) : (fillTo l k).length = l.length := by simp [fillTo]
theorem fillTo_get (l : List UInt8) (k i : Nat) (h : i < l.length) : (fillTo l k)[i]? = some (if i < k then l.getD i 0 else 0) := by simp [fillTo, h]

theorem fillTo_full (l : List UInt8) : fillTo l l.length = l := by
  apply List.ext_getElem?
  intro i
  by_cases h : i < l.length
  · rw [fillTo_get _ _ _ h]; simp [h, List.getD]
  · rw [List.getElem?_eq_none (by rw [fillTo_len]; omega), List.getElem?_eq_none (by omega)]

theorem fill_set (l : List UInt8) (k : Nat) : (cellsOf (fillTo l k)).set k (.int .u8 (at' l k)) = cellsOf (fillTo l (k + 1)) := by
  apply List.ext_getElem?
  intro i
  by_cases h : i < l.length
  · rw [List.getElem?_set]
    simp only [cellsOf, List.getElem?_map, List.length_map, fillTo_len, fillTo_get _ _ _ h]
    by_cases e : k = i
    · subst e
      simp [h, at']
    · rw [if_neg e]
      have : (i < k) ↔ (i < k + 1) := by omega
      simp [this]
  · rw [List.getElem?_eq_none (by simp [cellsOf, fillTo_len]; omega), List.getElem?_eq_none (by simp [cellsOf, fillTo_len]; omega)]

theorem made_fill (l : List UInt8) : (madeCells (Value.int .u8 0).cells (l.length * 1)).toList = cellsOf (fillTo l 0) := by
  apply List.ext_getElem?
  intro i
  by_cases h : i < l.length
  · simp only [cellsOf, List.getElem?_map, fillTo_get _ _ _ h]
    simp [madeCells, Value.cells, h, Nat.mod_one]
  · rw [List.getElem?_eq_none (by simp [madeCells]; omega), List.getElem?_eq_none (by simp [cellsOf, fillTo_len]; omega)]

set_option maxHeartbeats 400000 in
theorem clone_any (a : Option Addr) (l : List UInt8) (cap : Nat) (w : World) (h : BytesAt w a l) (hmax : l.length ≤ 2000000) (hn : a = none → l.length = 0) :
    Calls Try.prog 7 #[.slice a l.length cap] w fun e w' => ∃ a' c', e = .returned (.slice a' l.length c') ∧ OwnsB w' w.heap.size (.slice a' l.length c') l ∧ Below w.heap.size w w' ∧ (a' = none ∨ a' = some ⟨w.heap.size, 0, none⟩) := by
  have hlt0 := h.lt
  have qe : ∀ (w : World) (a : Option Addr) (n c n' c' : Nat), (binOp .eql 22 (.slice a n c) (.slice none n' c')).run Try.prog w = .ok (.bool a.isNone) w := fun w a n c n' c' => Lib.run_eql_slice_nil w _ _ a n c n' c' Try.underlying22
  obtain ⟨i0, hi, hz0, hz1, hz2⟩ := info_parts info5
  cases a with
  | none =>
    have e0 := hn rfl
    have el : l = [] := List.eq_nil_of_length_eq_zero e0
    subst el
    clear hn e0
    go_enter Try.func7, Try.ntmps7
    go_wp2
    go_ret
    exact ⟨none, 0, rfl, OwnsB.nil _ _, Below.refl _ _, Or.inl rfl⟩
  | some x =>
    clear hn
    obtain ⟨hlen, b, off, hc⟩ := h
    unfold maxLen at hlen
    go_enter Try.func7, Try.ntmps7
    go_wp2_with (at_make; refine wpList_make_full _ rfl _ _ 22 rfl w.heap.size 5 i0 (.int .u8 0) 1 Try.underlying22 hi hz0 hz1 _ _ _ _ l.length rfl rfl rfl rfl (by rw [hz2]; omega) (by unfold maxLen; omega) (Nat.le_refl _) ?_; intro w0 hown0 hgrow0)
    rw [made_fill] at hown0
    go_loopw [4] (fun i wr => ∃ k : Nat, k ≤ l.length ∧ i = .int .i64 k ∧ wr.ownsRow w.heap.size 5 1 (.slice (some ⟨w.heap.size, 0, none⟩) l.length l.length) l.length (cellsOf (fillTo l k)) ∧ Below w.heap.size w wr) (fun i _ => l.length - (intOf i).toNat)
    case atStart => exact ⟨0, Nat.zero_le _, rfl, hown0, (Below.refl _ _).grown hgrow0 (Nat.le_refl _) (fun k h => by cases h)⟩
    case round =>
      obtain ⟨k, hk, rfl, hown, hbel⟩ := hrel
      by_cases hlt : k < l.length
      · obtain ⟨ha, hK⟩ := hc k hlt
        have hblk : b < w.heap.size := hlt0 _ ha (by omega)
        have hK' : wr.cell? ⟨b, off + k, none⟩ = some (.int .u8 (at' l k)) := (hbel.cell (p := ⟨b, _, none⟩) hblk).trans hK
        have hix := fun w => indexAt_byte (P := Try.prog) (cap := cap) (b := b) (off := off) 22 Try.underlying22 size5 k hlt ha w
        have hcg : wr.cell? ⟨w.heap.size, k, none⟩ = some _ := (hown.cellAt k (by omega)).trans (cellsOf_get _ _ (by rw [fillTo_len]; exact hlt))
        have hfg := hown.frozenAt k
        clear ha hc hK
        go_wp2
        have hst := hown.stored k (.int .u8 (at' l k))
        rw [fill_set] at hst
        go_roundw
        case rel => exact ⟨k + 1, by omega, by go_num, hst.1, hbel.setCell (Nat.le_refl _) _⟩
        case measure => simp [intOf]; omega
      · obtain rfl : k = l.length := by omega
        rw [fillTo_full] at hown
        go_wp2
        go_ret
        exact ⟨_, _, rfl, hown, hbel, Or.inr rfl⟩

theorem at_append_left {l m : List UInt8} {i : Nat} (h : i < l.length) : at' (l ++ m) i = at' l i := by
  simp [at', List.getD, List.getElem?_append_left h]
theorem at_append_right {l m : List UInt8} (i : Nat) : at' (l ++ m) (l.length + i) = at' m i := by
  unfold at'
  rw [List.getD_eq_getElem?_getD, List.getElem?_append_right (by omega), show l.length + i - l.length = i by omega, List.getD_eq_getElem?_getD]

set_option maxHeartbeats 400000 in
/-- the longer slice begins with the shorter -/
theorem prefix_any (a1 : Option Addr) (l1 : List UInt8) (c1 : Nat) (a2 : Option Addr) (l2 : List UInt8) (c2 : Nat) (w : World) (h1 : BytesAt w a1 l1) (h2 : BytesAt w a2 l2) (hle : l2.length ≤ l1.length) (hp : ∀ i, i < l2.length → at' l1 i = at' l2 i) :
    Calls Try.prog 9 #[.slice a1 l1.length c1, .slice a2 l2.length c2] w fun e w' => e = .returned (.bool true) ∧ ∃ d, w' = w.drewN d := by
  obtain ⟨hl1, b1, o1, hc1⟩ := h1
  obtain ⟨_, b2, o2, hc2⟩ := h2
  unfold maxLen at hl1
  go_enter Try.func9, Try.ntmps9
  go_wp2
  go_loopw [5] (fun i wr => ∃ k d : Nat, k ≤ l2.length ∧ i = .int .i64 k ∧ wr = w.drewN d) (fun i _ => l2.length - (intOf i).toNat)
  case atStart => exact ⟨0, 0, Nat.zero_le _, rfl, rfl⟩
  case round =>
    obtain ⟨k, d, hk, rfl, rfl⟩ := hrel
    by_cases hlt : k < l2.length
    · obtain ⟨ha1, hK1⟩ := hc1 k (by omega)
      obtain ⟨ha2, hK2⟩ := hc2 k hlt
      rw [hp k hlt] at hK1
      have hix1 := fun w => indexAt_byte (P := Try.prog) (cap := c1) (b := b1) (off := o1) 22 Try.underlying22 size5 k (by omega : k < l1.length) ha1 w
      have hix2 := fun w => indexAt_byte (P := Try.prog) (cap := c2) (b := b2) (off := o2) 22 Try.underlying22 size5 k hlt ha2 w
      clear ha1 ha2 hc1 hc2 hp
      go_wp2
      go_quiet (fail)
      go_wp2
      go_roundw
      case rel => exact ⟨k + 1, _, by omega, by go_num, rfl⟩
      case measure => simp [intOf]; omega
    · go_wp2
      go_ret
      exact ⟨rfl, d, rfl⟩

theorem str_at (s : ByteArray) (k : Nat) (h : k < s.size) : ((s[k]).toNat : Int) = at' s.data.toList k := by
  have h' : k < s.data.size := h
  unfold at'
  rw [List.getD_eq_getElem?_getD, Array.getElem?_toList, Array.getElem?_eq_getElem h']
  rfl

set_option maxHeartbeats 400000 in
theorem eqBS_any (a1 : Option Addr) (s : ByteArray) (c1 : Nat) (w : World) (h1 : BytesAt w a1 s.data.toList) :
    Calls Try.prog 11 #[.slice a1 s.size c1, .string s] w fun e w' => e = .returned (.bool true) ∧ ∃ d, w' = w.drewN d := by
  obtain ⟨hl1, b1, o1, hc1⟩ := h1
  rw [str_len] at hl1 hc1
  unfold maxLen at hl1
  go_enter Try.func11, Try.ntmps11
  go_wp2
  go_loopw [5] (fun i wr => ∃ k d : Nat, k ≤ s.size ∧ i = .int .i64 k ∧ wr = w.drewN d) (fun i _ => s.size - (intOf i).toNat)
  case atStart => exact ⟨0, 0, Nat.zero_le _, rfl, rfl⟩
  case round =>
    obtain ⟨k, d, hk, rfl, rfl⟩ := hrel
    by_cases hlt : k < s.size
    · obtain ⟨ha1, hK1⟩ := hc1 k hlt
      rw [← str_at s k hlt] at hK1
      have hix1 := fun w => indexAt_byte (P := Try.prog) (cap := c1) (b := b1) (off := o1) 22 Try.underlying22 size5 k hlt ha1 w
      clear ha1 hc1
      go_wp2
      go_quiet (fail)
      go_wp2
      go_roundw
      case rel => exact ⟨k + 1, _, by omega, by go_num, rfl⟩
      case measure => simp [intOf]; omega
    · go_wp2
      go_ret
      exact ⟨rfl, d, rfl⟩

end Go.Proofs.Qxb6630440a
