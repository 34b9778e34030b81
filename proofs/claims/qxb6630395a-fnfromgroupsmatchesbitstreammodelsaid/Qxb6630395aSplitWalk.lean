/-
  FnFromGroupsSplitsAtWholeBytes: the walk.
-/
import Derived.Test.Qxb6630395aCopy
import Derived.Test.Qxb6630395aSplitPlain
namespace Go.Proofs.Qxb6630395a
open Go.RowKit

/-- the first k bytes of f, then noughts -/
def upto (f : Nat → Nat) (k : Nat) : Nat → Nat := fun i => if i < k then f i else 0

theorem made_vals (f : Nat → Nat) (n : Nat) : (madeCells (Value.int .u8 0).cells (n * 1)).toList = vals (upto f 0) n := by
  apply List.ext_getElem?
  intro i
  by_cases h : i < n
  · rw [vals_get _ _ _ h]
    simp [madeCells, Value.cells, upto, h, Nat.mod_one]
  · rw [List.getElem?_eq_none (by simp [madeCells]; omega), List.getElem?_eq_none (by rw [vals_len]; omega)]

theorem vals_set (f : Nat → Nat) (n k : Nat) : (vals (upto f k) n).set k (.int .u8 (f k : Int)) = vals (upto f (k + 1)) n := by
  apply List.ext_getElem?
  intro i
  by_cases hi : i < n
  · rw [vals_get _ _ _ hi, List.getElem?_set]
    by_cases e : k = i
    · subst e
      simp [vals_len, hi, upto]
    · rw [if_neg e, vals_get _ _ _ hi]
      have : (i < k) ↔ (i < k + 1) := by omega
      simp [upto, this]
  · rw [List.getElem?_eq_none (by rw [List.length_set, vals_len]; omega), List.getElem?_eq_none (by rw [vals_len]; omega)]

theorem vals_full (f : Nat → Nat) (n : Nat) : vals (upto f n) n = vals f n := by
  apply List.ext_getElem?
  intro i
  by_cases hi : i < n
  · rw [vals_get _ _ _ hi, vals_get _ _ _ hi]
    simp [upto, hi]
  · rw [List.getElem?_eq_none (by rw [vals_len]; omega), List.getElem?_eq_none (by rw [vals_len]; omega)]

theorem BytesAt.own {w : World} {g n : Nat} {f : Nat → Nat} (h : BytesAt w (some ⟨g, 0, none⟩) n f) : ∀ i, i < n → w.cell? ⟨g, i, none⟩ = some (.int .u8 (f i : Int)) := by
  obtain ⟨_, _, b, off, hc⟩ := h
  intro i hi
  obtain ⟨e, c⟩ := hc i hi
  cases e
  simpa using c

theorem joined_a {na i : Nat} {za zb : Nat → Nat} (h : i < na) : joined na za zb i = za i := by rw [joined, if_pos h]
theorem joined_b {na i : Nat} {za zb : Nat → Nat} : joined na za zb (na + i) = zb i := by rw [joined, if_neg (by omega), show na + i - na = i by omega]

set_option maxHeartbeats 1000000 in
set_option maxRecDepth 100000 in
theorem split_walk (a1 : Option Addr) (n1 c1 : Nat) (za : Nat → Nat) (a2 : Option Addr) (n2 c2 : Nat) (zb : Nat → Nat) (w : World) (h1 : BytesAt w a1 n1 za) (h2 : BytesAt w a2 n2 zb) (hn1 : a1 = none → n1 = 0) (hn2 : a2 = none → n2 = 0) :
    Calls Try.prog 4 #[.slice a1 n1 c1, .slice a2 n2 c2] w fun e w' => e = .returned (.bool true) ∧ Below w.heap.size w w' := by
  have hl1 := h1.1
  have hl2 := h2.1
  obtain ⟨i0, hi, hz0, hz1, hz2⟩ := info_parts info5
  have qn : ∀ (w : World) (a : Option Addr) (n c n' c' : Nat), (binOp .neq 22 (.slice a n c) (.slice none n' c')).run Try.prog w = .ok (.bool (!a.isNone)) w := fun w a n c n' c' => run_neq_slice_nil_any w _ _ a n c n' c' Try.underlying22
  have qe : ∀ (w : World) (a : Option Addr) (n c n' c' : Nat), (binOp .eql 22 (.slice a n c) (.slice none n' c')).run Try.prog w = .ok (.bool a.isNone) w := fun w a n c n' c' => Lib.run_eql_slice_nil w _ _ a n c n' c' Try.underlying22
  go_enter Try.func4, Try.ntmps4
  go_wp2_with fail
  refine (guard9_any a1 n1 c1 a2 n2 c2 _ hl1 hl2).mono ?_
  rintro e w' ⟨⟨x, rfl⟩, hw⟩
  subst w'
  unfold maxLen at hl1 hl2
  cases x with
  | false =>
    go_wp2
    go_ret
    exact ⟨rfl, Below.refl _ _⟩
  | true =>
  by_cases g1 : 524288 < n1
  · go_wp2
    go_ret
    exact ⟨rfl, Below.refl _ _⟩
  by_cases g2 : 524288 < n2
  · go_wp2
    go_ret
    exact ⟨rfl, Below.refl _ _⟩
  by_cases g3 : n1 % 8 = 0
  rotate_left
  · have t3 : ((n1 : Int) % 8 != 0) = true := by rw [bne_iff_ne]; omega
    go_wp2
    go_ret
    exact ⟨rfl, Below.refl _ _⟩
  have t3 : ((n1 : Int) % 8 != 0) = false := by rw [bne_eq_false_iff_eq]; omega
  have H8 : Hid (n1 % 8 = 0) := g3
  clear g3
  go_upto_if 33 with fail
  go_cut [0, 5] (fun s0 _ wc => ∃ a' c', s0 = .slice a' n1 c' ∧ BytesAt wc a' n1 za ∧ Below w.heap.size w wc)
  case first =>
    cases a1 with
    | none =>
      obtain rfl : n1 = 0 := hn1 rfl
      clear hn1 hn2
      go_wp2
      go_meet
      case rel => exact ⟨none, c1, rfl, h1, Below.refl _ _⟩
    | some x =>
      clear hn1 hn2
      go_wp2_with (first
        | (at_make; refine wpList_make_full _ rfl _ _ 22 rfl w.heap.size 5 i0 (.int .u8 0) 1 Try.underlying22 hi hz0 hz1 _ _ _ _ n1 rfl rfl rfl rfl (by rw [hz2]; omega) (by unfold maxLen; omega) (Nat.le_refl _) ?_; intro w0 hown0 hgrow0)
        | (have _t := hown0; refine wpList_copy_bytes _ rfl _ _ rfl w.heap.size w.heap.size n1 _ rfl hown0 _ _ rfl za (h1.below ((Below.refl _ _).grown hgrow0 (Nat.le_refl _) (fun k h => by cases h)) h1.lt) ?_; intro w1 hown1 hgrow1))
      go_meet
      case rel => exact ⟨_, _, rfl, bytesAt_of_owns hown1 (by unfold maxLen; omega) h1.2.1, ((Below.refl _ _).grown hgrow0 (Nat.le_refl _) (fun k h => by cases h)).grown hgrow1 hgrow0.size (fun k h => by cases h; exact Nat.le_refl _)⟩
  case rest =>
    obtain ⟨a1', c1', rfl, hA, hB1⟩ := hcut
    clear hn1
    obtain ⟨wA, rfl⟩ : ∃ wA : World, wA = wc := ⟨_, rfl⟩
    go_upto_if 42 with fail
    go_cut [1, 6] (fun s1 _ wd => ∃ a' c', s1 = .slice a' n2 c' ∧ BytesAt wd a' n2 zb ∧ Below wA.heap.size wA wd)
    case first =>
      have h2' := h2.below hB1 h2.lt
      cases a2 with
      | none =>
        obtain rfl : n2 = 0 := hn2 rfl
        clear hn2
        go_wp2
        go_meet
        case rel => exact ⟨none, c2, rfl, h2', Below.refl _ _⟩
      | some x =>
        clear hn2
        go_wp2_with (first
          | (at_make; refine wpList_make_full _ rfl _ _ 22 rfl wA.heap.size 5 i0 (.int .u8 0) 1 Try.underlying22 hi hz0 hz1 _ _ _ _ n2 rfl rfl rfl rfl (by rw [hz2]; omega) (by unfold maxLen; omega) (Nat.le_refl _) ?_; intro w0 hown0 hgrow0)
          | (have _t := hown0; refine wpList_copy_bytes _ rfl _ _ rfl wA.heap.size wA.heap.size n2 _ rfl hown0 _ _ rfl zb (h2'.below ((Below.refl _ _).grown hgrow0 (Nat.le_refl _) (fun k h => by cases h)) h2'.lt) ?_; intro w1 hown1 hgrow1))
        go_meet
        case rel => exact ⟨_, _, rfl, bytesAt_of_owns hown1 (by unfold maxLen; omega) h2.2.1, ((Below.refl _ _).grown hgrow0 (Nat.le_refl _) (fun k h => by cases h)).grown hgrow1 hgrow0.size (fun k h => by cases h; exact Nat.le_refl _)⟩
    case rest =>
      obtain ⟨a2', c2', rfl, hB, hB2⟩ := hcut
      have hA' := hA.below hB2 hA.lt
      clear hA h1 h2 hn2
      have hBw : Below w.heap.size w wc := hB1.trans (hB2.mono hB1.size)
      clear hB1 hB2
      have hws := hBw.size
      have hJ := joined_lt (za := za) (zb := zb) hA'.2.1 hB.2.1
      have hAlt := hA'.lt
      have hBlt := hB.lt
      go_wp2_with (first
        | (at_make; refine wpList_make_full _ rfl _ _ 22 rfl wc.heap.size 5 i0 (.int .u8 0) 1 Try.underlying22 hi hz0 hz1 _ _ _ _ (n1 + n2) rfl rfl (by omega) (by omega) (by rw [hz2]; omega) (by unfold maxLen; omega) (Nat.le_refl _) ?_; intro w0 hown0 hgrow0))
      rw [made_vals (joined n1 za zb)] at hown0
      go_loopw [8] (fun i wr => ∃ k : Nat, k ≤ n1 ∧ i = .int .i64 k ∧ wr.ownsRow wc.heap.size 5 1 (.slice (some ⟨wc.heap.size, 0, none⟩) (n1 + n2) (n1 + n2)) (n1 + n2) (vals (upto (joined n1 za zb) k) (n1 + n2)) ∧ Below wc.heap.size wc wr) (fun i _ => n1 - (intOf i).toNat)
      case atStart => exact ⟨0, Nat.zero_le _, rfl, hown0, (Below.refl _ _).grown hgrow0 (Nat.le_refl _) (fun k h => by cases h)⟩
      case round =>
        obtain ⟨k, hk, rfl, hown, hbel⟩ := hrel
        by_cases hlt : k < n1
        · obtain ⟨_, hz, b, off, hc⟩ := hA'.below hbel hAlt
          obtain ⟨ha, hK⟩ := hc k hlt
          have hix := fun w => indexAt_byte (P := Try.prog) (cap := c1') (b := b) (off := off) 22 Try.underlying22 size5 k hlt ha w
          have hcg : wr.cell? ⟨wc.heap.size, k, none⟩ = some _ := (hown.cellAt k (by omega)).trans (vals_get _ _ _ (by omega))
          have hfg := hown.frozenAt k
          clear ha hc
          go_wp2
          have hst := hown.stored k (.int .u8 (za k : Int))
          rw [← joined_a (za := za) (zb := zb) hlt, vals_set] at hst
          rw [joined_a hlt] at hst
          go_roundw
          case rel => exact ⟨k + 1, by omega, by go_num, hst.1, hbel.setCell (Nat.le_refl _) _⟩
          case measure => simp [intOf]; omega
        · obtain rfl : k = n1 := by omega
          obtain ⟨wB, rfl⟩ : ∃ wB : World, wB = wr := ⟨_, rfl⟩
          go_wp2_with fail
          go_loopw [9] (fun i wr => ∃ j : Nat, j ≤ n2 ∧ i = .int .i64 j ∧ wr.ownsRow wc.heap.size 5 1 (.slice (some ⟨wc.heap.size, 0, none⟩) (k + n2) (k + n2)) (k + n2) (vals (upto (joined k za zb) (k + j)) (k + n2)) ∧ Below wc.heap.size wc wr) (fun i _ => n2 - (intOf i).toNat)
          case atStart => exact ⟨0, Nat.zero_le _, rfl, hown, hbel⟩
          case round =>
            obtain ⟨j, hj, rfl, hown, hbel⟩ := hrel
            by_cases hlt : j < n2
            · obtain ⟨_, hz, b, off, hc⟩ := hB.below hbel hBlt
              obtain ⟨ha, hK⟩ := hc j hlt
              have hix := fun w => indexAt_byte (P := Try.prog) (cap := c2') (b := b) (off := off) 22 Try.underlying22 size5 j hlt ha w
              have hcg : wr.cell? ⟨wc.heap.size, k + j, none⟩ = some _ := (hown.cellAt (k + j) (by omega)).trans (vals_get _ _ _ (by omega))
              have hfg := hown.frozenAt (k + j)
              clear ha hc
              go_wp2
              have hst := hown.stored (k + j) (.int .u8 (zb j : Int))
              rw [← joined_b (na := k) (za := za) (zb := zb) (i := j), vals_set] at hst
              rw [joined_b] at hst
              go_roundw
              case rel => exact ⟨j + 1, by omega, by go_num, hst.1, hbel.setCell (Nat.le_refl _) _⟩
              case measure => simp [intOf]; omega
            · obtain rfl : j = n2 := by omega
              obtain ⟨wD, rfl⟩ : ∃ wD : World, wD = wr := ⟨_, rfl⟩
              rw [vals_full] at hown
              have vA := hA'.below hbel hAlt
              have vB := hB.below hbel hBlt
              have vJ := bytesAt_of_owns hown (by unfold maxLen; omega) hJ
              have hBd : Below w.heap.size w wD := hBw.trans (hbel.mono hws)
              have hOk1 := ok_left (z := za) H8.out
              have hOk2 := ok_right (nb := j) (za := za) (zb := zb) H8.out
              clear hA' hB hown hbel hBw hJ hAlt hBlt hgrow0 hown0
              go_wp2_with fail
              refine (zzfrom_any a1' k c1' za _ vA (by omega)).mono ?_
              rintro e w1 ⟨p1, _, hb1, hs1⟩
              obtain ⟨rfl, rA⟩ := p1 hOk1
              have vB1 := vB.below hb1 vB.lt
              have vJ1 := vJ.below hb1 vJ.lt
              go_wp2_with fail
              refine (zzfrom_any a2' j c2' zb _ vB1 (by omega)).mono ?_
              rintro e w2 ⟨p2, p2', hb2, hs2⟩
              have vJ2 := vJ1.below hb2 vJ1.lt
              have rA2 := rA.below hb2 (fun x hx _ => by cases hx; exact hs1)
              cases hok : okB zb j with
              | false =>
                obtain ⟨v2, rfl⟩ := p2' hok
                go_wp2_with fail
                refine (zzfrom_any (some ⟨wc.heap.size, 0, none⟩) (k + j) (k + j) (joined k za zb) _ vJ2 (by omega)).mono ?_
                rintro e w3 ⟨_, p3', hb3, hs3⟩
                obtain ⟨v3, rfl⟩ := p3' (hOk2.trans hok)
                have hE : Below w.heap.size w w3 := ((hBd.trans (hb1.mono hBd.size)).trans (hb2.mono (by have := hBd.size; omega))).trans (hb3.mono (by have := hBd.size; omega))
                clear hOk1 hOk2 hok p2 p2' p3'
                go_wp2
                go_quiet (fail)
                go_wp2
                go_ret
                exact ⟨rfl, below_drewN hE _⟩
              | true =>
                obtain ⟨rfl, rB⟩ := p2 hok
                go_wp2_with fail
                refine (zzfrom_any (some ⟨wc.heap.size, 0, none⟩) (k + j) (k + j) (joined k za zb) _ vJ2 (by omega)).mono ?_
                rintro e w3 ⟨p3, _, hb3, hs3⟩
                obtain ⟨rfl, rJ⟩ := p3 (hOk2.trans hok)
                have hE : Below w.heap.size w w3 := ((hBd.trans (hb1.mono hBd.size)).trans (hb2.mono (by have := hBd.size; omega))).trans (hb3.mono (by have := hBd.size; omega))
                have cA := (rA2.below hb3 (fun x hx _ => by cases hx; exact Nat.lt_trans hs1 hs2)).own
                have cB := (rB.below hb3 (fun x hx _ => by cases hx; exact hs2)).own
                have cJ := rJ.own
                have e5 : 5 * (k + j) / 8 = 5 * k / 8 + 5 * j / 8 := by have := H8.out; omega
                have E5 : Hid (5 * (k + j) / 8 = 5 * k / 8 + 5 * j / 8) := e5
                have t5 : ((5 * (k + j) / 8 : Nat) : Int) = ((5 * k / 8 : Nat) : Int) + ((5 * j / 8 : Nat) : Int) := by omega
                have T5 : Hid (((5 * (k + j) / 8 : Nat) : Int) = ((5 * k / 8 : Nat) : Int) + ((5 * j / 8 : Nat) : Int)) := t5
                clear hOk1 hOk2 hok p2 p2' p3 rA rA2 rB rJ vA vB vJ vB1 vJ1 vJ2 hBd hb1 hb2 hb3 t5 e5
                go_wp2
                go_quiet (fail)
                go_wp2
                go_loopw [16] (fun i wr => ∃ i' d : Nat, i' ≤ 5 * k / 8 ∧ i = .int .i64 i' ∧ wr = w3.drewN d) (fun i _ => 5 * k / 8 - (intOf i).toNat)
                case atStart => exact ⟨0, _, Nat.zero_le _, rfl, rfl⟩
                case round =>
                  obtain ⟨i, d, hi', rfl, rfl⟩ := hrel
                  by_cases hlt : i < 5 * k / 8
                  · have c1 := cA i hlt
                    have c2 := cJ i (by rw [E5.out]; omega)
                    rw [byte_left hlt] at c2
                    have hlt2 : i < 5 * (k + j) / 8 := by rw [E5.out]; omega
                    clear cA cB cJ
                    go_wp2
                    go_quiet (fail)
                    go_wp2
                    go_roundw
                    case rel => exact ⟨i + 1, _, by omega, by go_num, rfl⟩
                    case measure => simp [intOf]; omega
                  · obtain rfl : i = 5 * k / 8 := by omega
                    go_wp2
                    go_loopw [17] (fun i wr => ∃ i' d : Nat, i' ≤ 5 * j / 8 ∧ i = .int .i64 i' ∧ wr = w3.drewN d) (fun i _ => 5 * j / 8 - (intOf i).toNat)
                    case atStart => exact ⟨0, _, Nat.zero_le _, rfl, rfl⟩
                    case round =>
                      obtain ⟨i, d, hi', rfl, rfl⟩ := hrel
                      by_cases hlt : i < 5 * j / 8
                      · have c1 := cB i hlt
                        have c2 := cJ (5 * k / 8 + i) (by rw [E5.out]; omega)
                        rw [byte_right H8.out] at c2
                        have hlt2 : 5 * k / 8 + i < 5 * (k + j) / 8 := by rw [E5.out]; omega
                        clear cA cB cJ
                        go_wp2
                        go_quiet (fail)
                        go_wp2
                        go_roundw
                        case rel => exact ⟨i + 1, _, by omega, by go_num, rfl⟩
                        case measure => simp [intOf]; omega
                      · go_wp2
                        go_ret
                        exact ⟨rfl, below_drewN hE _⟩

end Go.Proofs.Qxb6630395a
