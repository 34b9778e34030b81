/-
  FnFormatMembersSplitsAtAnyCut: the walk.
-/
import Derived.Test.Qxb6630473aFmtSplitPlain
namespace Go.Proofs.Qxb6630473aFmt
open Go.RowKit Go.Extern.Stop Go.Stop Go.Extern Go.Kit

theorem row_below {w w' : World} {g n B : Nat} {t : TypeId} {f : Nat → Value} (h : w.rowIs g t n f) (hb : Below B w w') (hg : g < B) : w'.rowIs g t n f := by
  obtain ⟨c, h1, h2⟩ := h
  exact ⟨c, (hb.block g hg).trans h1, h2⟩

theorem spec_size {I : Nat → Nat} {S : Nat → ByteArray} {n : Nat} (hS : ∀ i, i < n → (S i).size ≤ 1048576) (hI : ∀ i, i < n → I i < 18446744073709551616) (hn : n ≤ 65536) : (specOf I S n).size ≤ 68721049600 := by
  have h := join_le I S n hS hI
  have e : (specOf I S n).size = (Lib.join (((List.range n).map (ent I S)).map (·.data.toList)) [44]).length := by
    show (Lib.join (((List.range n).map (ent I S)).map (·.data.toList)) [44]).toArray.size = _
    simp
  rw [e]
  exact Nat.le_trans h (by omega)

/-- the digits, behind a name -/
def digs (v : Nat) : ByteArray := ⟨(Lib.decDigits v).toArray⟩
theorem utoa_digs (v : Nat) (w : World) (hv : v < 18446744073709551616) :
    Calls Tryf.prog 9 #[.int .u64 (v : Int)] w fun e w' => e = .returned (.string (digs v)) ∧ Below w.heap.size w w' := utoa_any v w hv
theorem spec_one' (I : Nat → Nat) (S : Nat → ByteArray) : specOf I S 1 = digs (I 0) ++ ⟨#[61]⟩ ++ S 0 := spec_one I S

theorem dec_size {id : Nat} (hid : id < 18446744073709551616) : (digs id).size ≤ 22 := by
  have h := entry_len (s := []) hid
  simp only [entry, List.length_append, List.length_cons, List.length_nil] at h
  show (Lib.decDigits id).toArray.size ≤ 22
  rw [List.size_toArray]
  omega

theorem memAt_le {w : World} {a : Option Addr} {n k : Nat} {I : Nat → Nat} {S : Nat → ByteArray} (h : MemAt w a n I S) (hk : k ≤ n) : MemAt w a k I S := by
  obtain ⟨b, off, hc⟩ := h
  exact ⟨b, off, fun i hi => hc i (by omega)⟩

set_option maxHeartbeats 2000000 in
set_option maxRecDepth 100000 in
theorem split_walk (F : Interp) (a1 : Option Addr) (n1 c1 : Nat) (I : Nat → Nat) (a2 : Option Addr) (n2 c2 : Nat) (S : Nat → ByteArray) (x : Int) (w : World) (hF : F.told.answers w.tape) (h1 : IdsAt w a1 n1 I) (h2 : StrsAt w a2 n2 S) :
    Calls Tryf.prog 3 #[.slice a1 n1 c1, .slice a2 n2 c2, .int .i64 x] w fun e w' => e = .returned (.bool true) ∧ Below w.heap.size w w' := by
  have hl1 := h1.1
  have hl2 := h2.1
  go_enter Tryf.func3, Tryf.ntmps3
  go_wp2_with fail
  refine (guard5_any a1 n1 c1 I a2 n2 c2 S x _ h1 h2).mono ?_
  rintro e w' ⟨⟨b, rfl, hsh⟩, hw⟩
  subst w'
  unfold maxLen at hl1 hl2
  cases b with
  | false =>
    go_wp2
    go_ret
    exact ⟨rfl, Below.refl _ _⟩
  | true =>
  have hS := hsh rfl
  clear hsh
  by_cases g1 : 65536 < n1
  · go_wp2
    go_ret
    exact ⟨rfl, Below.refl _ _⟩
  by_cases g2 : 65536 < n2
  · go_wp2
    go_ret
    exact ⟨rfl, Below.refl _ _⟩
  go_wp2_with fail
  refine (bytes_any a1 n1 c1 I a2 n2 c2 S 0 _ h1 h2).mono ?_
  rintro e w' ⟨⟨m, rfl⟩, hw⟩
  subst w'
  by_cases g3 : 1048576 < m
  · go_wp2
    go_ret
    exact ⟨rfl, Below.refl _ _⟩
  by_cases g4 : n1 = n2
  rotate_left
  · have t4 : ((n1 : Int) != (n2 : Int)) = true := by rw [bne_iff_ne]; omega
    go_wp2
    go_ret
    exact ⟨rfl, Below.refl _ _⟩
  subst g4
  by_cases g5 : x < 0
  · go_wp2
    go_ret
    exact ⟨rfl, Below.refl _ _⟩
  by_cases g6 : (n1 : Int) < x
  · go_wp2
    go_ret
    exact ⟨rfl, Below.refl _ _⟩
  obtain ⟨k, rfl⟩ : ∃ k : Nat, x = k := ⟨x.toNat, by omega⟩
  have hk : k ≤ n1 := by omega
  clear g5 g6
  go_wp2_with fail
  refine (build_any a1 n1 c1 I a2 c2 S _ h1 h2 (by omega)).mono ?_
  rintro e w1 ⟨rfl, hrow, hb1⟩
  have hI := h1.2.1
  have hm := memAt_of_row hrow
  have hsz := hrow.lt
  have hF1 : F.told.answers w1.tape := by rw [hb1.tape]; exact hF
  go_wp2_with fail
  refine (format_any F _ n1 n1 I S w1 hF1 hm hI hS (by omega)).mono ?_
  rintro e w2 ⟨rfl, hb2⟩
  have hrow2 := row_below hrow hb2 hsz
  have hF2 : F.told.answers w2.tape := by rw [hb2.tape]; exact hF1
  have q1 := slice_to w.heap.size hk
  obtain ⟨off, hoff, q2⟩ := slice_from w.heap.size hk
  have hs12 := hb2.size
  go_wp2_with fail
  refine (format_any F _ k n1 I S w2 hF2 (memAt_le (memAt_of_row hrow2) hk) (fun i hi => hI i (by omega)) (fun i hi => hS i (by omega)) (by omega)).mono ?_
  rintro e w3 ⟨rfl, hb3⟩
  have hrow3 := row_below hrow2 hb3 (by omega)
  have hF3 : F.told.answers w3.tape := by rw [hb3.tape]; exact hF2
  have hs23 := hb3.size
  go_wp2_with fail
  refine (format_any F _ (n1 - k) (n1 - k) _ _ w3 hF3 (memAt_from hrow3 (by omega) (fun h => hoff (by omega))) (fun i hi => hI (k + i) (by omega)) (fun i hi => hS (k + i) (by omega)) (by omega)).mono ?_
  rintro e w4 ⟨rfl, hb4⟩
  have hrow4 := row_below hrow3 hb4 (by omega)
  have hF4 : F.told.answers w4.tape := by rw [hb4.tape]; exact hF3
  have hs34 := hb4.size
  have hs1 := hb1.size
  have hE4 : Below w.heap.size w w4 := ((hb1.trans (hb2.mono (by omega))).trans (hb3.mono (by omega))).trans (hb4.mono (by omega))
  have hN : specOf I S n1 = if k = 0 then specOf (fun i => I (k + i)) (fun i => S (k + i)) (n1 - k) else if k = n1 then specOf I S k else specOf I S k ++ ⟨#[44]⟩ ++ specOf (fun i => I (k + i)) (fun i => S (k + i)) (n1 - k) := by
    split
    · rename_i e; subst e; exact (spec_all I S n1).symm
    · split
      · rename_i e; subst e; rfl
      · exact (spec_split I S (by omega) (by omega)).symm
  have HN : Hid (_ = _) := hN
  clear hN q1 q2 hrow3 hrow2 hrow hm hb1 hb2 hb3 hb4 hF hF1 hF2 hF3 hoff
  have z1 : (specOf I S k).size ≤ 68721049600 := spec_size (fun i hi => hS i (by omega)) (fun i hi => hI i (by omega)) (by omega)
  have z2 : (specOf (fun i => I (k + i)) (fun i => S (k + i)) (n1 - k)).size ≤ 68721049600 := spec_size (fun i hi => hS (k + i) (by omega)) (fun i hi => hI (k + i) (by omega)) (by omega)
  by_cases hkn : k = n1
  · have hN : specOf I S n1 = specOf I S k := by rw [hkn]
    have tn : ((k : Int) == (n1 : Int)) = true := by rw [beq_iff_eq]; omega
    have hge : n1 ≤ k := by omega
    rw [hN]
    rw [show n1 - k = 0 by omega] at z2
    clear HN hN hkn
    by_cases hk0 : k = 0
    · have t0 : ((k : Int) == 0) = true := by rw [beq_iff_eq]; omega
      clear hk0
      go_wp2
      go_ret
      exact ⟨rfl, hE4⟩
    · have t0 : ((k : Int) == 0) = false := by rw [beq_eq_false_iff_ne]; omega
      go_wp2
      go_ret
      exact ⟨rfl, hE4⟩
  · have hlt : k < n1 := by omega
    have tn : ((k : Int) == (n1 : Int)) = false := by rw [beq_eq_false_iff_ne]; omega
    clear hkn hk
    have hd : ∀ j, j < 1 → I (k + j) < 18446744073709551616 := fun j hj => hI _ (by omega)
    have hd' : ∀ j, j < 1 → (S (k + j)).size ≤ 1048576 := fun j hj => hS _ (by omega)
    have hm4 : MemAt w4 (some ⟨w.heap.size, k * 2, none⟩) 1 (fun i => I (k + i)) (fun i => S (k + i)) := memAt_from hrow4 (by omega) (fun _ => rfl)
    have C5 := format_any F _ 1 (n1 - k) _ _ w4 hF4 hm4 hd hd' (by omega)
    have h14 := h1.below hE4 h1.lt
    have h24 := h2.below hE4 h2.lt
    have lt1 := h1.lt
    have lt2 := h2.lt
    clear hm4 hrow4
    have q3 := slice_one w.heap.size hlt
    by_cases hk0 : k = 0
    · have t0 : ((k : Int) == 0) = true := by rw [beq_iff_eq]; omega
      have hN := HN.out
      rw [if_pos hk0] at hN
      clear hk0
      rw [hN]
      clear hN HN
      go_wp2_with fail
      refine C5.mono ?_
      rintro e w5 ⟨rfl, hb5⟩
      have h15 := h14.below hb5 h14.lt
      have h25 := h24.below hb5 h24.lt
      go_wp2
      have h15c := h15.2.2
      have h25c := h25.2.2
      obtain ⟨b1, o1, hc1⟩ := h15c
      obtain ⟨b2, o2, hc2⟩ := h25c
      obtain ⟨ha1, hK1⟩ := hc1 k hlt
      obtain ⟨ha2, hK2⟩ := hc2 k hlt
      have hix1 := fun w => indexAt_one (P := Tryf.prog) (cap := c1) (b := b1) (off := o1) 22 Tryf.underlying22 size30 k hlt ha1 w
      have hix2 := fun w => indexAt_one (P := Tryf.prog) (cap := c2) (b := b2) (off := o2) 23 Tryf.underlying23 size9 k hlt ha2 w
      have hblk2 : b2 < w5.heap.size := h25.lt _ ha2 (by omega)
      have zd : (digs (I k)).size ≤ 22 := dec_size (hI k hlt)
      have zs := hS k hlt
      have hE5 : Below w.heap.size w w5 := hE4.trans (hb5.mono hE4.size)
      have hsz5 : w.heap.size ≤ w5.drew.heap.size := hE5.size
      rw [spec_one']
      clear ha1 ha2 hc1 hc2
      go_region_with (go_at_call 9; refine (utoa_digs (I k) _ (hI k hlt)).mono ?_; rintro e w6 ⟨rfl, hb6⟩; have hK2' : w6.cell? ⟨b2, o2 + k, none⟩ = some (.string (S k)) := (hb6.cell (p := ⟨b2, o2 + k, none⟩) hblk2).trans hK2)
      all_goals
        go_wp2
        go_ret
        exact ⟨rfl, hE5.drew.trans (hb6.mono hsz5)⟩
    · have t0 : ((k : Int) == 0) = false := by rw [beq_eq_false_iff_ne]; omega
      have hN := HN.out
      rw [if_neg hk0, if_neg (by omega)] at hN
      rw [hN]
      clear hN HN
      go_wp2_with fail
      refine C5.mono ?_
      rintro e w5 ⟨rfl, hb5⟩
      have h15 := h14.below hb5 h14.lt
      have h25 := h24.below hb5 h24.lt
      go_wp2
      have h15c := h15.2.2
      have h25c := h25.2.2
      obtain ⟨b1, o1, hc1⟩ := h15c
      obtain ⟨b2, o2, hc2⟩ := h25c
      obtain ⟨ha1, hK1⟩ := hc1 k hlt
      obtain ⟨ha2, hK2⟩ := hc2 k hlt
      have hix1 := fun w => indexAt_one (P := Tryf.prog) (cap := c1) (b := b1) (off := o1) 22 Tryf.underlying22 size30 k hlt ha1 w
      have hix2 := fun w => indexAt_one (P := Tryf.prog) (cap := c2) (b := b2) (off := o2) 23 Tryf.underlying23 size9 k hlt ha2 w
      have hblk2 : b2 < w5.heap.size := h25.lt _ ha2 (by omega)
      have zd : (digs (I k)).size ≤ 22 := dec_size (hI k hlt)
      have zs := hS k hlt
      have hE5 : Below w.heap.size w w5 := hE4.trans (hb5.mono hE4.size)
      have hsz5 : w.heap.size ≤ w5.drew.heap.size := hE5.size
      rw [spec_one']
      clear ha1 ha2 hc1 hc2
      go_region_with (go_at_call 9; refine (utoa_digs (I k) _ (hI k hlt)).mono ?_; rintro e w6 ⟨rfl, hb6⟩; have hK2' : w6.cell? ⟨b2, o2 + k, none⟩ = some (.string (S k)) := (hb6.cell (p := ⟨b2, o2 + k, none⟩) hblk2).trans hK2)
      all_goals
        go_wp2
        go_ret
        exact ⟨rfl, hE5.drew.trans (hb6.mono hsz5)⟩

end Go.Proofs.Qxb6630473aFmt
