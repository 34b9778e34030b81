/-
  FnFormatMembersInjectiveAndSized: the walk.
-/
import Derived.Test.Qxb6630473aFmtInjPlain
import Derived.Test.Qxb6630473aFmtSplitWalk
namespace Go.Proofs.Qxb6630473aFmt
open Go.RowKit Go.Extern.Stop Go.Stop Go.Extern Go.Kit

/-- w' is w behind some draws -/
def Drewn (w w' : World) : Prop := ∃ d, w' = w.drewN d

theorem Drewn.more {w w' : World} {n : Nat} (h : Drewn w w') : Drewn w (w'.drewN n) := by
  obtain ⟨d, rfl⟩ := h
  exact ⟨d + n, by simp⟩
theorem IdsAt.drewN {w w' : World} {a : Option Addr} {n : Nat} {I : Nat → Nat} (h : IdsAt w a n I) (hd : Drewn w w') : IdsAt w' a n I := by
  obtain ⟨d, rfl⟩ := hd
  obtain ⟨h1, h2, b, off, hc⟩ := h
  exact ⟨h1, h2, b, off, fun i hi => ⟨(hc i hi).1, by simpa using (hc i hi).2⟩⟩
theorem StrsAt.drewN {w w' : World} {a : Option Addr} {n : Nat} {S : Nat → ByteArray} (h : StrsAt w a n S) (hd : Drewn w w') : StrsAt w' a n S := by
  obtain ⟨d, rfl⟩ := hd
  obtain ⟨h1, h2, b, off, hc⟩ := h
  exact ⟨h1, h2, b, off, fun i hi => ⟨(hc i hi).1, by simpa using (hc i hi).2⟩⟩
theorem below_drewn {B : Nat} {w w' w'' : World} (h : Below B w w') (hd : Drewn w' w'') : Below B w w'' := by
  obtain ⟨d, rfl⟩ := hd
  exact ⟨h.os, h.tape, h.output, h.size, h.block⟩

theorem toList_inj {a b : ByteArray} (h : a.toList = b.toList) : a = b := by
  rw [ByteArray.toList_eq, ByteArray.toList_eq] at h
  exact WideShapes.bytes_inj h

theorem sameTo_succ {I J : Nat → Nat} {S T : Nat → ByteArray} {k : Nat} (h : SameTo I J S T k) (e1 : I k = J k) (e2 : S k = T k) : SameTo I J S T (k + 1) := by
  intro i hi
  rcases Nat.lt_or_ge i k with h1 | h1
  · exact h i h1
  · obtain rfl : i = k := by omega
    exact ⟨e1, e2⟩

theorem differ {I J : Nat → Nat} {S T : Nat → ByteArray} {n m k : Nat} (hS : Clean n S) (hT : Clean m T) (hk : k < n) (h : ¬ (I k = J k ∧ S k = T k)) : ((specOf I S n).toList == (specOf J T m).toList) = false := by
  rw [beq_eq_false_iff_ne]
  exact fun e => h ((spec_inj hS hT (toList_inj e)).2 k hk)

theorem want_spec (a1 : Option Addr) (n c1 : Nat) (I : Nat → Nat) (a2 : Option Addr) (c2 : Nat) (S : Nat → ByteArray) (w : World) (h1 : IdsAt w a1 n I) (h2 : StrsAt w a2 n S) (hS : Short n S) (hmax : n ≤ 65536) :
    Calls Tryf.prog 12 #[.slice a1 n c1, .slice a2 n c2] w fun e w' => e = .returned (.int .i64 ((specOf I S n).size : Int)) ∧ Drewn w w' := by
  rw [spec_size_eq]
  exact want_any a1 n c1 I a2 c2 S w h1 h2 hS hmax

set_option maxHeartbeats 4000000 in
set_option maxRecDepth 100000 in
theorem inj_walk (F : Interp) (a1 : Option Addr) (n1 c1 : Nat) (I : Nat → Nat) (a2 : Option Addr) (n2 c2 : Nat) (S : Nat → ByteArray) (a3 : Option Addr) (n3 c3 : Nat) (J : Nat → Nat) (a4 : Option Addr) (n4 c4 : Nat) (T : Nat → ByteArray) (w : World) (hF : F.told.answers w.tape)
    (h1 : IdsAt w a1 n1 I) (h2 : StrsAt w a2 n2 S) (h3 : IdsAt w a3 n3 J) (h4 : StrsAt w a4 n4 T) :
    Calls Tryf.prog 4 #[.slice a1 n1 c1, .slice a2 n2 c2, .slice a3 n3 c3, .slice a4 n4 c4] w fun e w' => e = .returned (.bool true) ∧ Below w.heap.size w w' := by
  have hl1 := h1.1
  have hl2 := h2.1
  have hl3 := h3.1
  have hl4 := h4.1
  go_enter Tryf.func4, Tryf.ntmps4
  go_wp2_with fail
  refine (guard10_any a1 n1 c1 I a2 n2 c2 S a3 n3 c3 J a4 n4 c4 T _ h1 h2 h3 h4).mono ?_
  rintro e w' ⟨⟨b, rfl, hsh⟩, hw⟩
  subst w'
  unfold maxLen at hl1 hl2 hl3 hl4
  cases b with
  | false =>
    go_wp2
    go_ret
    exact ⟨rfl, Below.refl _ _⟩
  | true =>
  obtain ⟨hS, hT⟩ := hsh rfl
  clear hsh
  by_cases g1 : 65536 < n1
  · go_wp2
    go_ret
    exact ⟨rfl, Below.refl _ _⟩
  by_cases g2 : 65536 < n2
  · go_wp2
    go_ret
    exact ⟨rfl, Below.refl _ _⟩
  by_cases g3 : 65536 < n3
  · go_wp2
    go_ret
    exact ⟨rfl, Below.refl _ _⟩
  by_cases g4 : 65536 < n4
  · go_wp2
    go_ret
    exact ⟨rfl, Below.refl _ _⟩
  go_wp2_with fail
  refine (bytes_any a1 n1 c1 I a2 n2 c2 S 0 _ h1 h2).mono ?_
  rintro e w' ⟨⟨m1, rfl⟩, hw⟩
  subst w'
  by_cases g5 : 1048576 < m1
  · go_wp2
    go_ret
    exact ⟨rfl, Below.refl _ _⟩
  go_wp2_with fail
  refine (bytes_any a3 n3 c3 J a4 n4 c4 T m1 _ h3 h4).mono ?_
  rintro e w' ⟨⟨m2, rfl⟩, hw⟩
  subst w'
  by_cases g6 : 1048576 < m2
  · go_wp2
    go_ret
    exact ⟨rfl, Below.refl _ _⟩
  by_cases g7 : n1 = n2
  rotate_left
  · have t7 : ((n1 : Int) != (n2 : Int)) = true := by rw [bne_iff_ne]; omega
    go_wp2
    go_ret
    exact ⟨rfl, Below.refl _ _⟩
  subst g7
  by_cases g8 : n3 = n4
  rotate_left
  · have t8 : ((n3 : Int) != (n4 : Int)) = true := by rw [bne_iff_ne]; omega
    go_wp2
    go_ret
    exact ⟨rfl, Below.refl _ _⟩
  subst g8
  go_wp2_with fail
  refine (nocomma_any a2 n1 c2 S _ h2).mono ?_
  rintro e w' ⟨⟨x, rfl, hx⟩, hw⟩
  subst w'
  cases x with
  | false =>
    go_wp2
    go_ret
    exact ⟨rfl, Below.refl _ _⟩
  | true =>
  have hCS := hx rfl
  clear hx
  go_wp2_with fail
  refine (nocomma_any a4 n3 c4 T _ h4).mono ?_
  rintro e w' ⟨⟨y, rfl, hy⟩, hw⟩
  subst w'
  cases y with
  | false =>
    go_wp2
    go_ret
    exact ⟨rfl, Below.refl _ _⟩
  | true =>
  have hCT := hy rfl
  clear hy
  go_wp2_with fail
  refine (build_any a1 n1 c1 I a2 c2 S _ h1 h2 (by omega)).mono ?_
  rintro e w1 ⟨rfl, hrowA, hb1⟩
  have h31 := h3.below hb1 h3.lt
  have h41 := h4.below hb1 h4.lt
  have hszA := hrowA.lt
  have hs1 := hb1.size
  go_wp2_with fail
  refine (build_any a3 n3 c3 J a4 c4 T _ h31 h41 (by omega)).mono ?_
  rintro e w2 ⟨rfl, hrowB, hb2⟩
  have hrowA2 := row_below hrowA hb2 hszA
  have hszB := hrowB.lt
  have hs2 := hb2.size
  have hI := h1.2.1
  have hJ := h3.2.1
  have hF2 : F.told.answers w2.tape := by rw [hb2.tape, hb1.tape]; exact hF
  go_wp2_with fail
  refine (format_any F _ n1 n1 I S w2 hF2 (memAt_of_row hrowA2) hI hS (by omega)).mono ?_
  rintro e w3 ⟨rfl, hb3⟩
  have hrowB3 := row_below hrowB hb3 hszB
  have hF3 : F.told.answers w3.tape := by rw [hb3.tape]; exact hF2
  have hs3 := hb3.size
  go_wp2_with fail
  refine (format_any F _ n3 n3 J T w3 hF3 (memAt_of_row hrowB3) hJ hT (by omega)).mono ?_
  rintro e w4 ⟨rfl, hb4⟩
  have hE : Below w.heap.size w w4 := ((hb1.trans (hb2.mono hs1)).trans (hb3.mono (by omega))).trans (hb4.mono (by omega))
  have k1 := h1.below hE h1.lt
  have k2 := h2.below hE h2.lt
  have k3 := h3.below hE h3.lt
  have k4 := h4.below hE h4.lt
  clear hrowA hrowA2 hrowB hrowB3 hb1 hb2 hb3 hb4 hF hF2 hF3 h31 h41 hs1 hs2 hs3 hszA hszB h1 h2 h3 h4 g5 g6
  by_cases hnm : n1 = n3
  rotate_left
  · have tn : ((n1 : Int) == (n3 : Int)) = false := by rw [beq_eq_false_iff_ne]; omega
    have tS : ((specOf I S n1).toList == (specOf J T n3).toList) = false := by
      rw [beq_eq_false_iff_ne]
      intro e
      exact hnm (spec_inj hCS hCT (toList_inj e)).1
    go_wp2_with fail
    refine (want_spec a1 n1 c1 I a2 c2 S _ k1 k2 hS (by omega)).mono ?_
    rintro e w5 ⟨rfl, hD5⟩
    go_wp2_with fail
    refine (want_spec a3 n3 c3 J a4 c4 T _ (k3.drewN hD5) (k4.drewN hD5) hT (by omega)).mono ?_
    rintro e w6 ⟨rfl, hD6⟩
    go_wp2
    go_ret
    exact ⟨rfl, below_drewn (below_drewn hE hD5) hD6⟩
  · have tn : ((n1 : Int) == (n3 : Int)) = true := by rw [beq_iff_eq]; omega
    have hge : n3 ≤ n1 := by omega
    have hle : n1 ≤ n3 := by omega
    have HN : Hid (n1 = n3) := hnm
    clear hnm
    go_wp2_with fail
    go_loopw [14, 15] (fun s i wr => ∃ k : Nat, k ≤ n1 ∧ i = .int .i64 k ∧ s = .bool true ∧ Hid (SameTo I J S T k) ∧ Drewn w4 wr) (fun _ i _ => n1 - (intOf i).toNat)
    case atStart => exact ⟨0, Nat.zero_le _, rfl, rfl, fun i hi => absurd hi (Nat.not_lt_zero _), ⟨0, rfl⟩⟩
    case round =>
      obtain ⟨k, hk, rfl, rfl, HB, hwr⟩ := hrel
      have hEr := below_drewn hE hwr
      have j1 := k1.drewN hwr
      have j2 := k2.drewN hwr
      have j3 := k3.drewN hwr
      have j4 := k4.drewN hwr
      by_cases hlt : k < n1
      · obtain ⟨_, _, b1, o1, hc1⟩ := k1.drewN hwr
        obtain ⟨_, _, b2, o2, hc2⟩ := k2.drewN hwr
        obtain ⟨_, _, b3, o3, hc3⟩ := k3.drewN hwr
        obtain ⟨_, _, b4, o4, hc4⟩ := k4.drewN hwr
        have hlt3 : k < n3 := by omega
        obtain ⟨ha1, hK1⟩ := hc1 k hlt
        obtain ⟨ha2, hK2⟩ := hc2 k hlt
        obtain ⟨ha3, hK3⟩ := hc3 k hlt3
        obtain ⟨ha4, hK4⟩ := hc4 k hlt3
        have hix1 := fun w => indexAt_one (P := Tryf.prog) (cap := c1) (b := b1) (off := o1) 22 Tryf.underlying22 size30 k hlt ha1 w
        have hix2 := fun w => indexAt_one (P := Tryf.prog) (cap := c2) (b := b2) (off := o2) 23 Tryf.underlying23 size9 k hlt ha2 w
        have hix3 := fun w => indexAt_one (P := Tryf.prog) (cap := c3) (b := b3) (off := o3) 22 Tryf.underlying22 size30 k hlt3 ha3 w
        have hix4 := fun w => indexAt_one (P := Tryf.prog) (cap := c4) (b := b4) (off := o4) 23 Tryf.underlying23 size9 k hlt3 ha4 w
        clear ha1 ha2 ha3 ha4 hc1 hc2 hc3 hc4 hI hJ k1 k2 k3 k4
        by_cases eI : I k = J k
        · have tI : ((I k : Int) != (J k : Int)) = false := by rw [bne_eq_false_iff_eq]; omega
          by_cases eS : S k = T k
          · have tT : ((S k).toList == (T k).toList) = true := by rw [beq_iff_eq, eS]
            have HS := sameTo_succ HB.out eI eS
            have HH : Hid (SameTo I J S T (k + 1)) := HS
            clear HS eI eS HB
            go_wp2
            go_quiet (fail)
            go_wp2
            go_roundw
            case rel => exact ⟨k + 1, by omega, by go_num, rfl, HH, hwr.more⟩
            case measure => simp [intOf]; omega
          · have tT : ((S k).toList == (T k).toList) = false := by rw [beq_eq_false_iff_ne]; exact fun e => eS (toList_inj e)
            have tS := differ (I := I) (J := J) hCS hCT hlt (fun h => eS h.2)
            clear eI eS HB
            go_wp2
            go_quiet (fail)
            go_wp2_with fail
            refine (want_spec a1 n1 c1 I a2 c2 S _ (j1.drewN ⟨_, rfl⟩) (j2.drewN ⟨_, rfl⟩) hS (by omega)).mono ?_
            rintro e w5 ⟨rfl, hD5⟩
            go_wp2_with fail
            refine (want_spec a3 n3 c3 J a4 c4 T _ ((j3.drewN ⟨_, rfl⟩).drewN hD5) ((j4.drewN ⟨_, rfl⟩).drewN hD5) hT (by omega)).mono ?_
            rintro e w6 ⟨rfl, hD6⟩
            go_wp2
            go_ret
            exact ⟨rfl, below_drewn (below_drewn (below_drewn hEr ⟨_, rfl⟩) hD5) hD6⟩
        · have tI : ((I k : Int) != (J k : Int)) = true := by rw [bne_iff_ne]; omega
          have tS := differ (I := I) (J := J) hCS hCT hlt (fun h => eI h.1)
          clear eI HB
          go_wp2
          go_quiet (fail)
          go_wp2_with fail
          refine (want_spec a1 n1 c1 I a2 c2 S _ (j1.drewN ⟨_, rfl⟩) (j2.drewN ⟨_, rfl⟩) hS (by omega)).mono ?_
          rintro e w5 ⟨rfl, hD5⟩
          go_wp2_with fail
          refine (want_spec a3 n3 c3 J a4 c4 T _ ((j3.drewN ⟨_, rfl⟩).drewN hD5) ((j4.drewN ⟨_, rfl⟩).drewN hD5) hT (by omega)).mono ?_
          rintro e w6 ⟨rfl, hD6⟩
          go_wp2
          go_ret
          exact ⟨rfl, below_drewn (below_drewn (below_drewn hEr ⟨_, rfl⟩) hD5) hD6⟩
      · have tS : ((specOf I S n1).toList == (specOf J T n3).toList) = true := by
          have e1 := HN.out
          subst e1
          obtain rfl : k = n1 := by omega
          rw [beq_iff_eq, spec_same HB.out]
        clear HB
        go_wp2_with fail
        refine (want_spec a1 n1 c1 I a2 c2 S _ j1 j2 hS (by omega)).mono ?_
        rintro e w5 ⟨rfl, hD5⟩
        go_wp2_with fail
        refine (want_spec a3 n3 c3 J a4 c4 T _ (j3.drewN hD5) (j4.drewN hD5) hT (by omega)).mono ?_
        rintro e w6 ⟨rfl, hD6⟩
        go_wp2
        go_ret
        exact ⟨rfl, below_drewn (below_drewn hEr hD5) hD6⟩

end Go.Proofs.Qxb6630473aFmt
