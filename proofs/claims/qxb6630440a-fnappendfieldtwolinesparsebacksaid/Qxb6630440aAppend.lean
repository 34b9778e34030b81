/-
  append(b, s...) with where the new slice lies; AppendField.
-/
import Derived.Test.Qxb6630440aView
import Derived.Deep.AppendLies
namespace Go.Proofs.Qxb6630440a
open Go.RowKit

theorem str_len (s : ByteArray) : s.data.toList.length = s.size := by rw [Array.length_toList]; rfl

/-- where the new slice lies -/
theorem append_lies {P : Program} (w : World) (base : Nat) (t u ty e : TypeId) (i : TypeInfo) (ht : P.underlying t = some (.slice e)) (hu : P.underlying u = some .string) (hi : P.info? e = some i) (hz : i.zero = some (.int .u8 0))
    (hsize : i.size = 1) (hby : i.bytes = 1) (v : Value) (n : Nat) (xs : List Value) (hown : w.ownsRow base e 1 v n xs) (s : ByteArray) (h63 : n + s.size ≤ maxLen) (hbytes : n + s.size ≤ 140737488355328)
    {v' : Value} {w' : World} (hr : (Builtin.append_ #[t, u] ty #[v, .string s]).run P w = .ok v' w') : v'.ownBlock = v.ownBlock ∨ v'.ownBlock = some w.heap.size := by
  have hxl : xs.length = n := by simpa using hown.1
  rcases hown.2 with ⟨rfl, rfl⟩ | ⟨g, cap, cur, rfl, hbg, hg, hnc, hcm, hcs, htake⟩
  · by_cases hm : s.size = 0
    · have hf := Lib.run_firstCells_string (P := P) w 1 s
      rw [hm] at hf
      simp [Builtin.append_, run_underlying ht, run_underlying hu, sizeOf, typeInfo, hi, hsize, Builtin.lenOf, hm, hf] at hr
      obtain ⟨rfl, _⟩ := hr
      exact Or.inl rfl
    · have hr2 := run_append_nil_string (P := P) w t u ty e i (.int .u8 0) ht hu hi hz s (by omega) (by simp only [maxLen] at h63; omega) (by rw [hby]; omega)
      rw [hr2] at hr
      cases hr
      exact Or.inr rfl
  · by_cases hroom : n + s.size ≤ cap
    · have hr2 := Lib.run_append_room_string (P := P) w t u ty e i ht hu hi hsize g n cap cur hg s hroom (by omega)
      rw [hr2] at hr
      cases hr
      exact Or.inl rfl
    · have holds : ∀ j u, xs[j]? = some u → w.cell? ((⟨g, 0, none⟩ : Addr).add j) = some u := hown.cells (g := g) rfl
      have hr2 := Lib.run_append_grow_string (P := P) w t u ty e i (.int .u8 0) ht hu hi hz ⟨g, 0, none⟩ n cap xs (by rw [hsize]; simpa using hxl) holds s (by omega) (by simp only [maxLen] at h63; omega) (by rw [hby]; exact growslice_fits (by omega) (by omega))
      rw [hr2] at hr
      cases hr
      exact Or.inr rfl

theorem wpList_append_str {ops : Array Oper} {rest : List Oper} {o : Oper} {a : Act} {Q : Exit → Act → World → Prop} (w : World) (hgd : o.guard = none) (sl x : Operand) (hop : o.op = .call { callee := .builtin .append, args := #[sl, x], argTypes := #[22, 9] })
    (base : Nat) (v : Value) (l : List UInt8) (hs : a.eval sl = v) (hown : OwnsB w base v l) (s : ByteArray) (hx : a.eval x = .string s) (hb : l.length + s.size ≤ 140737488355328) (hbase : base ≤ w.heap.size)
    (h : ∀ v' w', OwnsB w' base v' (l ++ s.data.toList) → w.grownBy w' v.ownBlock → (v'.ownBlock = v.ownBlock ∨ v'.ownBlock = some w.heap.size) → wpList Try.prog ops Q rest (a.put o.dst v') w') : wpList Try.prog ops Q (o :: rest) a w := by
  obtain ⟨i0, hi, hz0, hz1, hz2⟩ := info_parts info5
  refine wpList_plain hgd fun K hK => ?_
  have hm : l.length + s.size ≤ maxLen := by unfold maxLen; omega
  obtain ⟨v', w', hr, h2, h3, _⟩ := Lib.run_append_own_string (P := Try.prog) w base 22 9 o.type 5 i0 Try.underlying22 Try.underlying9 hi hz0 hz1 hz2 v l.length (cellsOf l) hown s hm hb hbase
  have h5 := append_lies w base 22 9 o.type 5 i0 Try.underlying22 Try.underlying9 hi hz0 hz1 hz2 v l.length (cellsOf l) hown s hm hb hr
  unfold Oper.wp execOp
  simp only [hop, resolve, invoke, builtin, Sem.run_bind, Sem.run_pure, Result.andThen_ok, List.map_toArray, List.map_cons, List.map_nil, hs, hx, hr]
  refine hK _ _ (h v' w' ?_ h3 h5)
  unfold OwnsB
  rw [← cellsOf_append, List.length_append, str_len]
  exact h2

/-- a field line -/
def lineOf (s1 s2 : ByteArray) : List UInt8 := s1.data.toList ++ ([58, 32] ++ (s2.data.toList ++ [13, 10]))

theorem lineOf_len (s1 s2 : ByteArray) : (lineOf s1 s2).length = s1.size + s2.size + 4 := by
  simp only [lineOf, List.length_append, str_len, List.length_cons, List.length_nil]; omega

theorem grown_next {w w1 w2 : World} {b0 b1 : Option Nat} (h1 : w.grownBy w1 b0) (hl : b1 = b0 ∨ ∃ g, b1 = some g ∧ w.heap.size ≤ g) (h2 : w1.grownBy w2 b1) : w.grownBy w2 b0 :=
  ⟨h2.os.trans h1.os, h2.tape.trans h1.tape, h2.output.trans h1.output, Nat.le_trans h1.size h2.size, fun i hi hne =>
    (h2.block i (Nat.lt_of_lt_of_le hi h1.size) (fun e => by
      rcases hl with rfl | ⟨g, rfl, hg⟩
      · exact hne e
      · cases e; omega)).trans (h1.block i hi hne)⟩

theorem lies_next {w w1 : World} {b0 b1 b2 : Option Nat} (hs : w.heap.size ≤ w1.heap.size) (hl : b1 = b0 ∨ ∃ g, b1 = some g ∧ w.heap.size ≤ g) (h2 : b2 = b1 ∨ b2 = some w1.heap.size) : b2 = b0 ∨ ∃ g, b2 = some g ∧ w.heap.size ≤ g := by
  rcases h2 with rfl | rfl
  · exact hl
  · exact Or.inr ⟨_, rfl, hs⟩

set_option maxHeartbeats 400000 in
theorem append_any (base : Nat) (v : Value) (l : List UInt8) (s1 s2 : ByteArray) (w : World) (hown : OwnsB w base v l) (hbase : base ≤ w.heap.size) (hl : l.length ≤ 2000000) (h1 : s1.size ≤ 2000000) (h2 : s2.size ≤ 2000000) (m : List UInt8) (hm : Hid (m = l ++ lineOf s1 s2)) :
    Calls Try.prog 8 #[v, .string s1, .string s2] w fun e w' => ∃ g cap, e = .returned (.slice (some ⟨g, 0, none⟩) m.length cap) ∧ OwnsB w' base (.slice (some ⟨g, 0, none⟩) m.length cap) m ∧
      w.grownBy w' v.ownBlock ∧ (some g = v.ownBlock ∨ w.heap.size ≤ g) := by
  have e1 := str_len s1
  have e2 := str_len s2
  have b1 : l.length + s1.size ≤ 140737488355328 := by omega
  have b2 : (l ++ s1.data.toList).length + (⟨#[58, 32]⟩ : ByteArray).size ≤ 140737488355328 := by
    rw [List.length_append, e1, show (⟨#[58, 32]⟩ : ByteArray).size = 2 from rfl]; omega
  have b3 : (l ++ s1.data.toList ++ (⟨#[58, 32]⟩ : ByteArray).data.toList).length + s2.size ≤ 140737488355328 := by
    rw [List.length_append, List.length_append, e1, show (⟨#[58, 32]⟩ : ByteArray).data.toList.length = 2 from rfl]; omega
  have b4 : (l ++ s1.data.toList ++ (⟨#[58, 32]⟩ : ByteArray).data.toList ++ s2.data.toList).length + (⟨#[13, 10]⟩ : ByteArray).size ≤ 140737488355328 := by
    rw [List.length_append, List.length_append, List.length_append, e1, e2, show (⟨#[58, 32]⟩ : ByteArray).data.toList.length = 2 from rfl, show (⟨#[13, 10]⟩ : ByteArray).size = 2 from rfl]; omega
  have B1 : Hid (l.length + s1.size ≤ 140737488355328) := b1
  have B2 : Hid ((l ++ s1.data.toList).length + (⟨#[58, 32]⟩ : ByteArray).size ≤ 140737488355328) := b2
  have B3 : Hid ((l ++ s1.data.toList ++ (⟨#[58, 32]⟩ : ByteArray).data.toList).length + s2.size ≤ 140737488355328) := b3
  have B4 : Hid ((l ++ s1.data.toList ++ (⟨#[58, 32]⟩ : ByteArray).data.toList ++ s2.data.toList).length + (⟨#[13, 10]⟩ : ByteArray).size ≤ 140737488355328) := b4
  clear b1 b2 b3 b4 e1 e2
  go_enter Try.func8, Try.ntmps8
  go_wp2_with (first
    | (at_builtin; refine wpList_append_str _ rfl (.tmp 7) (.tmp 8) rfl base v l rfl hown s1 rfl B1.out hbase ?_; intro v1 w1 o1 g1 l1)
    | (at_builtin; refine wpList_append_str _ rfl (.tmp 10) _ rfl base v1 _ rfl o1 ⟨#[58, 32]⟩ rfl B2.out (Nat.le_trans hbase g1.size) ?_; intro v2 w2 o2 g2 l2)
    | (at_builtin; refine wpList_append_str _ rfl (.tmp 12) (.tmp 13) rfl base v2 _ rfl o2 s2 rfl B3.out (Nat.le_trans hbase (Nat.le_trans g1.size g2.size)) ?_; intro v3 w3 o3 g3 l3)
    | (at_builtin; refine wpList_append_str _ rfl (.tmp 15) _ rfl base v3 _ rfl o3 ⟨#[13, 10]⟩ rfl B4.out (Nat.le_trans hbase (Nat.le_trans g1.size (Nat.le_trans g2.size g3.size))) ?_; intro v4 w4 o4 g4 l4))
  have o5 : OwnsB w4 base v4 m := by
    have e : m = l ++ s1.data.toList ++ [58, 32] ++ s2.data.toList ++ [13, 10] := by rw [hm.out]; simp [lineOf]
    rw [e]; exact o4
  have L1 : v1.ownBlock = v.ownBlock ∨ ∃ g, v1.ownBlock = some g ∧ w.heap.size ≤ g := lies_next (Nat.le_refl _) (Or.inl rfl) l1
  have L2 := lies_next g1.size L1 l2
  have G2 := grown_next g1 L1 g2
  have L3 := lies_next G2.size L2 l3
  have G3 := grown_next G2 L2 g3
  have L4 := lies_next G3.size L3 l4
  have G4 := grown_next G3 L3 g4
  obtain ⟨g, cap, hv, _, _⟩ := World.ownsRow.form o5 (by rw [hm.out, List.length_append, lineOf_len]; omega)
  rw [hv] at o5 L4
  go_ret
  refine ⟨g, cap, ?_, o5, G4, ?_⟩
  · show Ending.returned v4 = _
    rw [hv]
  · rcases L4 with e | ⟨g', e, hg'⟩
    · exact Or.inl e
    · have : g = g' := by simpa [Value.ownBlock] using e
      exact Or.inr (this ▸ hg')

end Go.Proofs.Qxb6630440a
