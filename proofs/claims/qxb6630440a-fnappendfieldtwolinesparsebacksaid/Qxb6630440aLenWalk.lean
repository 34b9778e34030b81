/-
  FnAppendFieldPrefixAndLength: the walk.
-/
import Derived.Test.Qxb6630440aRead
namespace Go.Proofs.Qxb6630440a
open Go.RowKit

theorem guard12_any (a1 : Option Addr) (n1 c1 : Nat) (s1 s2 : ByteArray) (w : World) (h1 : n1 ≤ maxLen) (h2 : s1.size ≤ maxLen) (h3 : s2.size ≤ maxLen) :
    Calls Try.prog 12 #[.slice a1 n1 c1, .string s1, .string s2] w fun e w' => SomeBool e ∧ w' = w := by
  unfold maxLen at h1 h2 h3
  go_enter Try.func12, Try.ntmps12
  go_wp2
  all_goals
    go_ret
    exact ⟨⟨_, rfl⟩, rfl⟩

theorem OwnsB.bytes_any {w : World} {base cap : Nat} {a : Option Addr} {l : List UInt8} (h : OwnsB w base (.slice a l.length cap) l) : BytesAt w a l ∧ (a = none → l.length = 0) := by
  rcases h.2 with ⟨e, e0⟩ | ⟨g, c, cur, e, _, _, hnc, hcm, _, _⟩
  · have el : l = [] := List.eq_nil_of_length_eq_zero e0
    subst el
    exact ⟨BytesAt.nil _ _, fun _ => rfl⟩
  · cases e
    exact ⟨OwnsB.bytes h (by omega), fun h => by cases h⟩

theorem OwnsB.below {w w' : World} {base B : Nat} {v : Value} {l : List UInt8} (h : OwnsB w base v l) (hb : Below B w w') (hB : ∀ k, v.ownBlock = some k → k < B) : OwnsB w' base v l := by
  obtain ⟨h1, h2⟩ := h
  refine ⟨h1, ?_⟩
  rcases h2 with h2 | ⟨g, cap, cur, rfl, hb', hh, r⟩
  · exact Or.inl h2
  · exact Or.inr ⟨g, cap, cur, rfl, hb', (hb.block g (hB g rfl)).trans hh, r⟩

/-- what is read stays as it was while one other block is written -/
theorem BytesAt.kept {w w' : World} {a : Option Addr} {l : List UInt8} {row : Option Nat} (h : BytesAt w a l) (hg : w.grownBy w' row) (hne : ∀ x, a = some x → row ≠ some x.block) : BytesAt w' a l := by
  obtain ⟨h1, b, off, hc⟩ := h
  refine ⟨h1, b, off, fun i hi => ?_⟩
  obtain ⟨e, c⟩ := hc i hi
  exact ⟨e, (hg.cell_far ⟨b, off + i, none⟩ (block_lt_of_cell c) (fun e' => hne _ e e'.symm)).trans c⟩

set_option maxHeartbeats 1000000 in
set_option maxRecDepth 100000 in
theorem len_walk (a : Option Addr) (l : List UInt8) (cap : Nat) (s1 s2 : ByteArray) (w : World) (h : BytesAt w a l) (hn : a = none → l.length = 0) (z1 : s1.size ≤ maxLen) (z2 : s2.size ≤ maxLen) :
    Calls Try.prog 4 #[.slice a l.length cap, .string s1, .string s2] w fun e w' => e = .returned (.bool true) ∧ Below w.heap.size w w' := by
  have hl := h.1
  go_enter Try.func4, Try.ntmps4
  go_wp2_with fail
  refine (guard12_any a l.length cap s1 s2 _ hl z1 z2).mono ?_
  rintro e w' ⟨⟨x, rfl⟩, hw⟩
  subst w'
  unfold maxLen at hl z1 z2
  cases x with
  | false =>
    go_wp2
    go_ret
    exact ⟨rfl, Below.refl _ _⟩
  | true =>
  by_cases g1 : 262144 < l.length
  · go_wp2
    go_ret
    exact ⟨rfl, Below.refl _ _⟩
  by_cases g2 : 262144 < s1.size
  · go_wp2
    go_ret
    exact ⟨rfl, Below.refl _ _⟩
  by_cases g3 : 262144 < s2.size
  · go_wp2
    go_ret
    exact ⟨rfl, Below.refl _ _⟩
  go_wp2_with fail
  refine (clone_any a l cap _ h (by omega) hn).mono ?_
  rintro e w1 ⟨a1, c1, rfl, o1, hb1, p1⟩
  obtain ⟨v1, n1⟩ := o1.bytes_any
  clear h hn
  go_wp2_with fail
  refine (clone_any a1 l c1 _ v1 (by omega) n1).mono ?_
  rintro e w2 ⟨a2, c2, rfl, o2, hb2, p2⟩
  obtain ⟨v2, n2⟩ := o2.bytes_any
  have hlt1 : ∀ k, (Value.slice a1 l.length c1).ownBlock = some k → k < w1.heap.size := fun k hk => (World.ownsRow.lt o1 k hk).2
  have o1' := o1.below hb2 hlt1
  obtain ⟨m, hm⟩ : ∃ m, m = lineOf s1 s2 := ⟨_, rfl⟩
  have HM : Hid (m = [] ++ lineOf s1 s2) := hm
  have hml : m.length = s1.size + s2.size + 4 := by rw [hm, lineOf_len]
  obtain ⟨mr, hmr⟩ : ∃ m, m = l ++ lineOf s1 s2 := ⟨_, rfl⟩
  have HR : Hid (mr = l ++ lineOf s1 s2) := hmr
  have hrl : mr.length = l.length + m.length := by rw [hmr, hm, List.length_append]
  have i1 : m.length ≤ s1.size + s2.size + 4 := by omega
  have i2 : s1.size + s2.size + 4 ≤ m.length := by omega
  have i3 : mr.length ≤ l.length + m.length := by omega
  have i4 : l.length + m.length ≤ mr.length := by omega
  clear hm hmr hml hrl
  go_wp2_with fail
  refine (append_any w2.heap.size (.slice none 0 0) [] s1 s2 _ (OwnsB.nil _ _) (Nat.le_refl _) (by simp) (by omega) (by omega) m HM).mono ?_
  rintro e w3 ⟨g3', c3, rfl, o3, hg3, _⟩
  have hb3 : Below w2.heap.size w2 w3 := (Below.refl _ _).grown hg3 (Nat.le_refl _) (fun k hk => by cases hk)
  have o1'' := o1'.below hb3 (fun k hk => Nat.lt_of_lt_of_le (hlt1 k hk) hb2.size)
  go_wp2_with fail
  have hB3 : Below w.heap.size w w3 := (hb1.trans (hb2.mono hb1.size)).trans (hb3.mono (Nat.le_trans hb1.size hb2.size))
  refine (append_any w.heap.size (.slice a1 l.length c1) l s1 s2 _ o1'' hB3.size (by omega) (by omega) (by omega) mr HR).mono ?_
  rintro e w4 ⟨g4, c4, rfl, o4, hg4, _⟩
  -- the row of b' is block w.heap.size, if any
  have hrow : ∀ k, (Value.slice a1 l.length c1).ownBlock = some k → k = w.heap.size ∧ w.heap.size < w1.heap.size := fun k hk => by
    have := hlt1 k hk
    rcases p1 with rfl | rfl
    · cases hk
    · cases hk; exact ⟨rfl, this⟩
  have hg3ge : w2.heap.size ≤ g3' := (World.ownsRow.lt o3 _ rfl).1
  have hs12 := hb2.size
  have hs01 := hb1.size
  have vO : BytesAt w4 a2 l := ((v2.below hb3 v2.lt).kept hg4 (fun x hx e => by
    obtain ⟨e1, e2⟩ := hrow _ e
    rcases p2 with rfl | rfl
    · cases hx
    · cases hx; simp at e1; omega))
  have vA : BytesAt w4 (some ⟨g3', 0, none⟩) m := ((OwnsB.bytes o3 (by unfold maxLen; omega)).kept hg4 (fun x hx e => by
    obtain ⟨e1, e2⟩ := hrow _ e
    cases hx
    simp at e1
    omega))
  have vR : BytesAt w4 (some ⟨g4, 0, none⟩) mr := OwnsB.bytes o4 (by unfold maxLen; omega)
  have hB4 : Below w.heap.size w w4 := hB3.grown hg4 hB3.size (fun k hk => by rw [(hrow k hk).1]; exact Nat.le_refl _)
  have hpre : ∀ i, i < l.length → at' mr i = at' l i := fun i hi => by rw [HR.out, at_append_left hi]
  have hpost : ∀ i, at' mr (l.length + i) = at' m i := fun i => by rw [HR.out, at_append_right, HM.out]; rfl
  clear o1 o2 o1' o1'' o3 o4 v1 v2 hb1 hb2 hb3 hB3 hg3 hg4 hrow hlt1 p1 p2 n1 n2
  go_wp2_with fail
  refine (prefix_any _ mr _ _ l _ _ vR vO (by omega) hpre).mono ?_
  rintro e w' ⟨rfl, d, hw⟩
  subst w'
  obtain ⟨_, bA, oA, hcA⟩ := vA
  obtain ⟨_, bR, oR, hcR⟩ := vR
  go_wp2
  go_loopw [10] (fun i wr => ∃ k d : Nat, k ≤ m.length ∧ i = .int .i64 k ∧ wr = w4.drewN d) (fun i _ => m.length - (intOf i).toNat)
  case atStart => exact ⟨0, _, Nat.zero_le _, rfl, rfl⟩
  case round =>
    obtain ⟨k, d, hk, rfl, rfl⟩ := hrel
    by_cases hlt : k < m.length
    · obtain ⟨ha1, hK1⟩ := hcA k hlt
      obtain ⟨ha2, hK2⟩ := hcR (l.length + k) (by omega)
      rw [hpost] at hK2
      have hix1 := fun w => indexAt_byte (P := Try.prog) (cap := c3) (b := bA) (off := oA) 22 Try.underlying22 size5 k hlt ha1 w
      have hix2 := fun w => indexAt_byte (P := Try.prog) (cap := c4) (b := bR) (off := oR) 22 Try.underlying22 size5 (l.length + k) (by omega : l.length + k < mr.length) ha2 w
      rw [show ((l.length + k : Nat) : Int) = (l.length : Int) + (k : Int) from by omega] at hix2
      clear ha1 ha2 hcA hcR hpre hpost
      go_wp2
      go_quiet (fail)
      go_wp2
      go_roundw
      case rel => exact ⟨k + 1, _, by omega, by go_num, rfl⟩
      case measure => simp [intOf]; omega
    · go_wp2
      go_ret
      exact ⟨rfl, below_drewN hB4 _⟩

end Go.Proofs.Qxb6630440a
