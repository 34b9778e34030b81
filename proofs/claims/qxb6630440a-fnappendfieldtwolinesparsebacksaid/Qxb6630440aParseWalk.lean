/-
  FnAppendFieldTwoLinesParseBack: the plain facts on the two lines, and the walk.
-/
import Derived.Test.Qxb6630440aParse
namespace Go.Proofs.Qxb6630440a
open Go.RowKit

/-- the bytes from p on are the line of s1, s2: the name ends at i, the value at j -/
structure LineAt (m : List UInt8) (p i j : Nat) (s1 s2 : ByteArray) : Prop where
  ei : i = p + s1.size
  ej : j = i + 2 + s2.size
  le : j + 2 ≤ m.length
  name : ∀ k, k < s1.size → at' m (p + k) = at' s1.data.toList k
  colon : at' m i = 58
  blank : at' m (i + 1) = 32
  value : ∀ k, k < s2.size → at' m (i + 2 + k) = at' s2.data.toList k
  cr : at' m j = 13
  lf : at' m (j + 1) = 10

theorem lineAt_mk (pre post : List UInt8) (s1 s2 : ByteArray) : LineAt (pre ++ (lineOf s1 s2 ++ post)) pre.length (pre.length + s1.size) (pre.length + s1.size + 2 + s2.size) s1 s2 := by
  have e1 := str_len s1
  have e2 := str_len s2
  have sh : ∀ k, at' (pre ++ (lineOf s1 s2 ++ post)) (pre.length + k) = at' (lineOf s1 s2 ++ post) k := fun k => at_append_right k
  have len := lineOf_len s1 s2
  have inl : ∀ k, k < (lineOf s1 s2).length → at' (lineOf s1 s2 ++ post) k = at' (lineOf s1 s2) k := fun k hk => at_append_left hk
  have name : ∀ k, k < s1.size → at' (lineOf s1 s2) k = at' s1.data.toList k := fun k hk => at_append_left (by omega)
  have mid : ∀ k, at' (lineOf s1 s2) (s1.size + k) = at' ([58, 32] ++ (s2.data.toList ++ [13, 10])) k := fun k => by
    rw [← e1]; exact at_append_right k
  have two : ∀ k, at' ([58, 32] ++ (s2.data.toList ++ [13, 10])) (2 + k) = at' (s2.data.toList ++ [13, 10]) k := fun k => at_append_right (l := [58, 32]) k
  have val : ∀ k, k < s2.size → at' (s2.data.toList ++ [13, 10]) k = at' s2.data.toList k := fun k hk => at_append_left (by omega)
  have fin : ∀ k, at' (s2.data.toList ++ [13, 10]) (s2.size + k) = at' [13, 10] k := fun k => by rw [← e2]; exact at_append_right k
  refine ⟨rfl, rfl, ?_, fun k hk => ?_, ?_, ?_, fun k hk => ?_, ?_, ?_⟩
  · simp only [List.length_append]; omega
  · rw [sh, inl _ (by omega), name k hk]
  · rw [sh, inl _ (by omega), show s1.size = s1.size + 0 from rfl, mid]; rfl
  · rw [show pre.length + s1.size + 1 = pre.length + (s1.size + 1) from by omega, sh, inl _ (by omega), mid]; rfl
  · rw [show pre.length + s1.size + 2 + k = pre.length + (s1.size + (2 + k)) from by omega, sh, inl _ (by omega), mid, two, val k hk]
  · rw [show pre.length + s1.size + 2 + s2.size = pre.length + (s1.size + (2 + (s2.size + 0))) from by omega, sh, inl _ (by omega), mid, two, fin]; rfl
  · rw [show pre.length + s1.size + 2 + s2.size + 1 = pre.length + (s1.size + (2 + (s2.size + 1))) from by omega, sh, inl _ (by omega), mid, two, fin]; rfl

theorem BytesAt.sub {w : World} {g p : Nat} {m s : List UInt8} (h : BytesAt w (some ⟨g, 0, none⟩) m) (hl : s.length ≤ m.length) (hs : ∀ k, k < s.length → p + k < m.length ∧ at' m (p + k) = at' s k) : BytesAt w (some ⟨g, p, none⟩) s := by
  obtain ⟨h1, b, off, hc⟩ := h
  refine ⟨by omega, g, p, fun k hk => ⟨rfl, ?_⟩⟩
  obtain ⟨h2, h3⟩ := hs k hk
  obtain ⟨e, c⟩ := hc (p + k) h2
  cases e
  rw [← h3]
  simpa using c

theorem parseLine_any (g cap : Nat) (m : List UInt8) (p i j : Nat) (s1 s2 : ByteArray) (w : World) (h : BytesAt w (some ⟨g, 0, none⟩) m) (hcap : m.length ≤ cap) (hcm : cap ≤ maxLen) (hL : LineAt m p i j s1 s2)
    (hn : ∀ k, k < s1.size → at' s1.data.toList k ≠ 58) (hv : ∀ k, k < s2.size → at' s2.data.toList k ≠ 13) :
    Calls Try.prog 10 #[.slice (some ⟨g, 0, none⟩) m.length cap, .int .i64 (p : Int)] w fun e w' =>
      e = .returned (.tuple #[.slice (some ⟨g, p, none⟩) s1.size (cap - p), .slice (some ⟨g, i + 2, none⟩) s2.size (cap - (i + 2)), .int .i64 ((j : Int) + 2), .bool true]) ∧ ∃ d, w' = w.drewN d := by
  have := parse_any g cap m p i j w h hcap hcm (by have := hL.ei; omega) (by have := hL.ej; omega) hL.le
    (fun k h1 h2 => by have := hL.name (k - p) (by have := hL.ei; omega); rw [show p + (k - p) = k by omega] at this; rw [this]; exact hn _ (by have := hL.ei; omega)) hL.colon hL.blank
    (fun k h1 h2 => by have := hL.value (k - (i + 2)) (by have := hL.ej; omega); rw [show i + 2 + (k - (i + 2)) = k by omega] at this; rw [this]; exact hv _ (by have := hL.ej; omega)) hL.cr hL.lf
  rw [show i - p = s1.size by have := hL.ei; omega, show j - (i + 2) = s2.size by have := hL.ej; omega] at this
  exact this

theorem LineAt.names {w : World} {g : Nat} {m : List UInt8} {p i j : Nat} {s1 s2 : ByteArray} (hL : LineAt m p i j s1 s2) (h : BytesAt w (some ⟨g, 0, none⟩) m) : BytesAt w (some ⟨g, p, none⟩) s1.data.toList ∧ BytesAt w (some ⟨g, i + 2, none⟩) s2.data.toList := by
  have e1 := str_len s1
  have e2 := str_len s2
  have h1 := hL.ei
  have h2 := hL.ej
  have h3 := hL.le
  exact ⟨h.sub (by omega) (fun k hk => ⟨by omega, hL.name k (by omega)⟩), h.sub (by omega) (fun k hk => ⟨by omega, hL.value k (by omega)⟩)⟩

theorem hide {p : Prop} (h : p) : Hid p := h

theorem OwnsB.cap {w : World} {base g cap : Nat} {l : List UInt8} (h : OwnsB w base (.slice (some ⟨g, 0, none⟩) l.length cap) l) : l.length ≤ cap ∧ cap ≤ maxLen := by
  rcases h.2 with ⟨e, _⟩ | ⟨g', c, cur, e, _, _, hnc, hcm, _, _⟩
  · simp at e
  · cases e; exact ⟨hnc, hcm⟩

set_option maxHeartbeats 2000000 in
set_option maxRecDepth 100000 in
theorem parse_walk (a : Option Addr) (l : List UInt8) (cap : Nat) (s1 s2 s3 s4 : ByteArray) (w : World) (h : BytesAt w a l) (hn : a = none → l.length = 0) (z1 : s1.size ≤ maxLen) (z2 : s2.size ≤ maxLen) (z3 : s3.size ≤ maxLen) (z4 : s4.size ≤ maxLen) :
    Calls Try.prog 3 #[.slice a l.length cap, .string s1, .string s2, .string s3, .string s4] w fun e w' => e = .returned (.bool true) ∧ Below w.heap.size w w' := by
  have hl := h.1
  go_enter Try.func3, Try.ntmps3
  go_wp2_with fail
  refine (guard5_any a l.length cap s1 s2 s3 s4 _ hl z1 z2 z3 z4).mono ?_
  rintro e w' ⟨⟨x, rfl⟩, hw⟩
  subst w'
  have C1 := hasByte_any s1 58 w z1
  have C2 := hasByte_any s3 58 w z3
  have C3 := hasByte_any s2 13 w z2
  have C4 := hasByte_any s4 13 w z4
  unfold maxLen at hl z1 z2 z3 z4
  cases x with
  | false =>
    go_wp2
    go_ret
    exact ⟨rfl, Below.refl _ _⟩
  | true =>
  by_cases g1 : 131072 < l.length
  · go_wp2
    go_ret
    exact ⟨rfl, Below.refl _ _⟩
  by_cases g2 : 131072 < s1.size
  · go_wp2
    go_ret
    exact ⟨rfl, Below.refl _ _⟩
  by_cases g3 : 131072 < s2.size
  · go_wp2
    go_ret
    exact ⟨rfl, Below.refl _ _⟩
  by_cases g4 : 131072 < s3.size
  · go_wp2
    go_ret
    exact ⟨rfl, Below.refl _ _⟩
  by_cases g5 : 131072 < s4.size
  · go_wp2
    go_ret
    exact ⟨rfl, Below.refl _ _⟩
  go_wp2_with fail
  refine C1.mono ?_
  rintro e w' ⟨⟨x, rfl, q1⟩, hw⟩
  subst w'
  cases x with
  | true =>
    clear q1
    go_wp2
    go_ret
    exact ⟨rfl, Below.refl _ _⟩
  | false =>
  have Q1 : Hid (∀ k, k < s1.size → at' s1.data.toList k ≠ 58) := q1 rfl
  clear q1
  go_wp2_with fail
  refine C2.mono ?_
  rintro e w' ⟨⟨x, rfl, q2⟩, hw⟩
  subst w'
  cases x with
  | true =>
    clear q2
    go_wp2
    go_ret
    exact ⟨rfl, Below.refl _ _⟩
  | false =>
  have Q2 : Hid (∀ k, k < s3.size → at' s3.data.toList k ≠ 58) := q2 rfl
  clear q2
  go_wp2_with fail
  refine C3.mono ?_
  rintro e w' ⟨⟨x, rfl, q3⟩, hw⟩
  subst w'
  cases x with
  | true =>
    clear q3
    go_wp2
    go_ret
    exact ⟨rfl, Below.refl _ _⟩
  | false =>
  have Q3 : Hid (∀ k, k < s2.size → at' s2.data.toList k ≠ 13) := q3 rfl
  clear q3
  go_wp2_with fail
  refine C4.mono ?_
  rintro e w' ⟨⟨x, rfl, q4⟩, hw⟩
  subst w'
  cases x with
  | true =>
    clear q4
    go_wp2
    go_ret
    exact ⟨rfl, Below.refl _ _⟩
  | false =>
  have Q4 : Hid (∀ k, k < s4.size → at' s4.data.toList k ≠ 13) := q4 rfl
  clear q4 C1 C2 C3 C4
  go_wp2_with fail
  refine (clone_any a l cap _ h (by omega) hn).mono ?_
  rintro e w1 ⟨a1, c1, rfl, o1, hb1, p1⟩
  obtain ⟨v1, n1⟩ := o1.bytes_any
  clear h hn
  go_wp2_with fail
  refine (clone_any a1 l c1 _ v1 (by omega) n1).mono ?_
  rintro e w2 ⟨a2, c2, rfl, o2, hb2, p2⟩
  obtain ⟨v2, n2⟩ := o2.bytes_any
  have hlt1 : ∀ k, (Value.slice a1 l.length c1).ownBlock = some k → k < w1.heap.size := fun k hk => (World.ownsRow.lt o1 k hk).2
  have o1' := o1.below hb2 hlt1
  obtain ⟨m1, hm1⟩ : ∃ m, m = l ++ lineOf s1 s2 := ⟨_, rfl⟩
  have HM1 : Hid (m1 = l ++ lineOf s1 s2) := hm1
  have hl1 : m1.length = l.length + s1.size + s2.size + 4 := by rw [hm1, List.length_append, lineOf_len]; omega
  obtain ⟨m2, hm2⟩ : ∃ m, m = m1 ++ lineOf s3 s4 := ⟨_, rfl⟩
  have HM2 : Hid (m2 = m1 ++ lineOf s3 s4) := hm2
  have hl2 : m2.length = m1.length + s3.size + s4.size + 4 := by rw [hm2, List.length_append, lineOf_len]; omega
  have LA : LineAt m2 l.length (l.length + s1.size) (l.length + s1.size + 2 + s2.size) s1 s2 := by
    rw [hm2, hm1, List.append_assoc]; exact lineAt_mk l (lineOf s3 s4) s1 s2
  have LB : LineAt m2 m1.length (m1.length + s3.size) (m1.length + s3.size + 2 + s4.size) s3 s4 := by
    have := lineAt_mk m1 [] s3 s4
    rw [List.append_nil] at this
    rw [hm2]; exact this
  obtain ⟨iA, eiA⟩ : ∃ i, i = l.length + s1.size := ⟨_, rfl⟩
  obtain ⟨jA, ejA⟩ : ∃ i, i = l.length + s1.size + 2 + s2.size := ⟨_, rfl⟩
  obtain ⟨iB, eiB⟩ : ∃ i, i = m1.length + s3.size := ⟨_, rfl⟩
  obtain ⟨jB, ejB⟩ : ∃ i, i = m1.length + s3.size + 2 + s4.size := ⟨_, rfl⟩
  rw [← ejA, ← eiA] at LA
  rw [← ejB, ← eiB] at LB
  have hAnext : jA + 2 = m1.length := by omega
  have hBnext : jB + 2 = m2.length := by omega
  have HAN : Hid (jA + 2 = m1.length) := hAnext
  have HBN : Hid (jB + 2 = m2.length) := hBnext
  have lm1 : m1.length ≤ 1000000 := by omega
  have lm2 : m2.length ≤ 1000000 := by omega
  have hpre : ∀ i, i < l.length → at' m2 i = at' l i := fun i hi => by rw [hm2, hm1, List.append_assoc, at_append_left hi]
  have HPRE : Hid (∀ i, i < l.length → at' m2 i = at' l i) := hpre
  have hle : l.length ≤ m2.length := by omega
  clear hm1 hm2 hl1 hl2 eiA ejA eiB ejB hAnext hBnext hpre
  go_wp2_with fail
  have hB2 : Below w.heap.size w w2 := hb1.trans (hb2.mono hb1.size)
  refine (append_any w.heap.size (.slice a1 l.length c1) l s1 s2 _ o1' hB2.size (by omega) (by omega) (by omega) m1 HM1).mono ?_
  rintro e w4 ⟨g4', c4, rfl, o4, hg4, lie4⟩
  go_wp2_with fail
  have hB4s : w.heap.size ≤ w4.heap.size := Nat.le_trans hB2.size hg4.size
  refine (append_any w.heap.size (.slice (some ⟨g4', 0, none⟩) m1.length c4) m1 s3 s4 _ o4 hB4s (by omega) (by omega) (by omega) m2 HM2).mono ?_
  rintro e w5 ⟨g5', c5, rfl, o5, hg5, _⟩
  have hrow : ∀ k, (Value.slice a1 l.length c1).ownBlock = some k → k = w.heap.size ∧ w.heap.size < w1.heap.size := fun k hk => by
    have := hlt1 k hk
    rcases p1 with rfl | rfl
    · cases hk
    · cases hk; exact ⟨rfl, this⟩
  have hs12 := hb2.size
  have hs01 := hb1.size
  have hg4ge : w.heap.size ≤ g4' := (World.ownsRow.lt o4 _ rfl).1
  have vO4 : BytesAt w4 a2 l := v2.kept hg4 (fun x hx e => by
    obtain ⟨e1, e2⟩ := hrow _ e
    rcases p2 with rfl | rfl
    · cases hx
    · cases hx; simp at e1; omega)
  have vO : BytesAt w5 a2 l := vO4.kept hg5 (fun x hx e => by
    have e' : g4' = x.block := by simpa [Value.ownBlock] using e
    have hx2 : x.block < w2.heap.size ∧ x.block = w1.heap.size := by
      rcases p2 with rfl | rfl
      · cases hx
      · cases hx; exact ⟨(World.ownsRow.lt o2 _ rfl).2, rfl⟩
    rcases lie4 with e1 | e1
    · obtain ⟨e2, e3⟩ := hrow _ e1.symm
      omega
    · omega)
  have vR : BytesAt w5 (some ⟨g5', 0, none⟩) m2 := OwnsB.bytes o5 (by unfold maxLen; omega)
  obtain ⟨hc5, hc5m⟩ := o5.cap
  have hB5 : Below w.heap.size w w5 := (hB2.grown hg4 hB2.size (fun k hk => by rw [(hrow k hk).1]; exact Nat.le_refl _)).grown hg5 hB4s (fun k hk => by cases hk; exact hg4ge)
  clear o1 o2 o1' o4 o5 v1 v2 hb1 hb2 hB2 hg4 hg5 hrow hlt1 p1 p2 n1 n2 vO4 lie4 hB4s
  obtain ⟨nA, nV⟩ := LA.names vR
  obtain ⟨nB, nW⟩ := LB.names vR
  have PA := fun d => parseLine_any g5' c5 m2 l.length iA jA s1 s2 (w5.drewN d) vR hc5 hc5m LA Q1.out Q3.out
  have PB := fun d => parseLine_any g5' c5 m2 m1.length iB jB s3 s4 (w5.drewN d) vR hc5 hc5m LB Q2.out Q4.out
  rw [show ((m1.length : Nat) : Int) = (jA : Int) + 2 by have := HAN.out; omega] at PB
  have EA := fun d => eqBS_any _ s1 (c5 - l.length) (w5.drewN d) nA
  have EV := fun d => eqBS_any _ s2 (c5 - (iA + 2)) (w5.drewN d) nV
  have EB := fun d => eqBS_any _ s3 (c5 - m1.length) (w5.drewN d) nB
  have EW := fun d => eqBS_any _ s4 (c5 - (iB + 2)) (w5.drewN d) nW
  have PP := prefix_any _ m2 c5 _ l c2 _ vR vO hle HPRE.out
  clear vO vR LA LB nA nV nB nW
  have HPA := hide PA
  have HPB := hide PB
  have HEA := hide EA
  have HEV := hide EV
  have HEB := hide EB
  have HEW := hide EW
  clear PA PB EA EV EB EW
  go_wp2_with fail
  refine PP.mono ?_
  rintro e w' ⟨rfl, d, hw⟩
  subst w'
  go_wp2_with fail
  refine (HPA.out d).mono ?_
  rintro e w' ⟨rfl, d', hw⟩
  subst w'
  rw [World.drewN_drewN]
  go_wp2_with fail
  refine (HEA.out _).mono ?_
  rintro e w' ⟨rfl, d', hw⟩
  subst w'
  rw [World.drewN_drewN]
  go_wp2_with fail
  refine (HEV.out _).mono ?_
  rintro e w' ⟨rfl, d', hw⟩
  subst w'
  rw [World.drewN_drewN]
  go_wp2_with fail
  refine (HPB.out _).mono ?_
  rintro e w' ⟨rfl, d', hw⟩
  subst w'
  rw [World.drewN_drewN]
  go_wp2_with fail
  refine (HEB.out _).mono ?_
  rintro e w' ⟨rfl, d', hw⟩
  subst w'
  rw [World.drewN_drewN]
  go_wp2_with fail
  refine (HEW.out _).mono ?_
  rintro e w' ⟨rfl, d', hw⟩
  subst w'
  rw [World.drewN_drewN]
  have hfin : ((jB : Int) + 2 == (m2.length : Int)) = true := by rw [beq_iff_eq]; have := HBN.out; omega
  go_wp2
  go_ret
  exact ⟨rfl, below_drewN hB5 _⟩

end Go.Proofs.Qxb6630440a
