/-
  Plain laws: the spec is one-to-one where no address holds a comma; its length.
-/
import Derived.Test.Qxb6630473aFmtSplitPlain
import Derived.Test.Qxb6630473aFmtWant
namespace Go.Proofs.Qxb6630473aFmt
open Go.RowKit

def valOf (l : List UInt8) : Nat := l.foldl (fun a c => a * 10 + (c.toNat - 48)) 0

theorem dig_nat {d : Nat} (h : d < 10) : (UInt8.ofNat (48 + d)).toNat = 48 + d := by
  rw [UInt8.toNat_ofNat', Nat.mod_eq_of_lt (by omega)]

theorem valOf_dec (u : Nat) : valOf (Lib.decDigits u) = u := by
  induction u using Nat.strongRecOn with
  | ind u ih =>
    rw [Lib.decDigits]
    split
    · rename_i h
      simp [valOf]
      omega
    · rename_i h
      have := ih (u / 10) (by omega)
      unfold valOf at this ⊢
      rw [List.foldl_append, this]
      have hd := dig_nat (show u % 10 < 10 by omega)
      simp only [List.foldl_cons, List.foldl_nil]
      omega

theorem dec_inj {u v : Nat} (h : Lib.decDigits u = Lib.decDigits v) : u = v := by
  rw [← valOf_dec u, h, valOf_dec]

theorem dec_range (u : Nat) : ∀ c ∈ Lib.decDigits u, 48 ≤ c.toNat ∧ c.toNat ≤ 57 := by
  induction u using Nat.strongRecOn with
  | ind u ih =>
    rw [Lib.decDigits]
    split
    · rename_i h
      intro c hc
      rw [List.mem_singleton] at hc
      rw [hc, dig_nat h]
      omega
    · rename_i h
      intro c hc
      rcases List.mem_append.1 hc with hc | hc
      · exact ih _ (by omega) c hc
      · rw [List.mem_singleton] at hc
        have hd := dig_nat (show u % 10 < 10 by omega)
        rw [hc, hd]
        omega

theorem cut_sep (c : UInt8) : ∀ (x y r r' : List UInt8), c ∉ x → c ∉ y → x ++ c :: r = y ++ c :: r' → x = y ∧ r = r'
  | [], [], r, r', _, _, h => by simpa using h
  | [], b :: y, r, r', _, hy, h => by
    simp only [List.nil_append, List.cons_append, List.cons.injEq] at h
    exact absurd (by simp [h.1]) hy
  | a :: x, [], r, r', hx, _, h => by
    simp only [List.nil_append, List.cons_append, List.cons.injEq] at h
    exact absurd (by simp [h.1]) hx
  | a :: x, b :: y, r, r', hx, hy, h => by
    simp only [List.cons_append, List.cons.injEq] at h
    obtain ⟨h1, h2⟩ := cut_sep c x y r r' (fun m => hx (List.mem_cons_of_mem _ m)) (fun m => hy (List.mem_cons_of_mem _ m)) h.2
    exact ⟨by rw [h.1, h1], h2⟩

theorem join_inj : ∀ (xs ys : List (List UInt8)), (∀ x ∈ xs, (44 : UInt8) ∉ x ∧ x ≠ []) → (∀ y ∈ ys, (44 : UInt8) ∉ y ∧ y ≠ []) → Lib.join xs [44] = Lib.join ys [44] → xs = ys
  | [], [], _, _, _ => rfl
  | [], [y], _, hy, h => by
    rw [join_one] at h
    exact absurd h.symm (hy y (by simp)).2
  | [], y :: y' :: s, _, hy, h => by
    rw [join_cons2] at h
    have := congrArg List.length h
    simp [Lib.join] at this
  | [x], [], hx, _, h => by
    rw [join_one] at h
    exact absurd h (hx x (by simp)).2
  | x :: x' :: r, [], hx, _, h => by
    rw [join_cons2] at h
    have := congrArg List.length h
    simp [Lib.join] at this
  | [x], [y], _, _, h => by rw [join_one, join_one] at h; rw [h]
  | [x], y :: y' :: s, hx, _, h => by
    rw [join_one, join_cons2] at h
    exact absurd (by rw [h]; simp) (hx x (by simp)).1
  | x :: x' :: r, [y], _, hy, h => by
    rw [join_one, join_cons2] at h
    exact absurd (by rw [← h]; simp) (hy y (by simp)).1
  | x :: x' :: r, y :: y' :: s, hx, hy, h => by
    rw [join_cons2, join_cons2] at h
    obtain ⟨h1, h2⟩ := cut_sep 44 x y _ _ (hx x (by simp)).1 (hy y (by simp)).1 h
    rw [h1, join_inj (x' :: r) (y' :: s) (fun z hz => hx z (List.mem_cons_of_mem _ hz)) (fun z hz => hy z (List.mem_cons_of_mem _ hz)) h2]

theorem not_mem_of_free {s : ByteArray} (h : FreeTo s s.size) : (44 : UInt8) ∉ s.data.toList := by
  intro hm
  obtain ⟨j, hj, e⟩ := List.getElem_of_mem hm
  have hj' : j < s.size := by
    have : s.data.toList.length = s.size := by rw [Array.length_toList]; rfl
    omega
  refine h j hj' hj' ?_
  have : s[j] = 44 := by
    rw [← e]
    rfl
  rw [this]
  rfl

theorem dec_not {u : Nat} {c : UInt8} (h : c.toNat < 48 ∨ 57 < c.toNat) : c ∉ Lib.decDigits u := fun hm => by
  have := dec_range u c hm
  omega

theorem entry_ok {id : Nat} {s : ByteArray} (h : FreeTo s s.size) : (44 : UInt8) ∉ entry id s.data.toList ∧ entry id s.data.toList ≠ [] := by
  refine ⟨fun hm => ?_, by simp [entry]⟩
  rw [entry] at hm
  rcases List.mem_append.1 hm with hm | hm
  · exact dec_not (by decide) hm
  · rcases List.mem_cons.1 hm with hm | hm
    · exact absurd hm (by decide)
    · exact not_mem_of_free h hm

theorem bytesOf_ok {I : Nat → Nat} {S : Nat → ByteArray} {n : Nat} (h : Clean n S) : ∀ x ∈ bytesOf I S n, (44 : UInt8) ∉ x ∧ x ≠ [] := by
  intro x hx
  simp only [bytesOf, List.mem_map, List.mem_range] at hx
  obtain ⟨i, hi, rfl⟩ := hx
  exact entry_ok (h i hi)

theorem entry_inj {id id' : Nat} {s s' : List UInt8} (h : entry id s = entry id' s') : id = id' ∧ s = s' := by
  obtain ⟨h1, h2⟩ := cut_sep 61 _ _ _ _ (dec_not (by decide)) (dec_not (by decide)) h
  exact ⟨dec_inj h1, h2⟩

/-- the first n members are the same -/
def SameTo (I J : Nat → Nat) (S T : Nat → ByteArray) (n : Nat) : Prop := ∀ i, i < n → I i = J i ∧ S i = T i

theorem spec_inj {I J : Nat → Nat} {S T : Nat → ByteArray} {n m : Nat} (hS : Clean n S) (hT : Clean m T) (h : specOf I S n = specOf J T m) : n = m ∧ SameTo I J S T n := by
  have h1 := congrArg (fun b : ByteArray => b.data.toList) h
  simp only [specOf_data] at h1
  have h2 := join_inj _ _ (bytesOf_ok hS) (bytesOf_ok hT) h1
  have h3 : n = m := by
    have := congrArg List.length h2
    simpa [bytesOf] using this
  subst h3
  refine ⟨rfl, fun i hi => ?_⟩
  have h4 := List.map_inj_left.1 h2 i (List.mem_range.2 hi)
  obtain ⟨e1, e2⟩ := entry_inj h4
  exact ⟨e1, WideShapes.bytes_inj e2⟩

theorem spec_same {I J : Nat → Nat} {S T : Nat → ByteArray} {n : Nat} (h : SameTo I J S T n) : specOf I S n = specOf J T n := by
  apply WideShapes.bytes_inj
  rw [specOf_data, specOf_data]
  congr 1
  exact List.map_congr_left fun i hi => by
    obtain ⟨e1, e2⟩ := h i (List.mem_range.1 hi)
    rw [e1, e2]

theorem entry_length (id : Nat) (s : ByteArray) : (entry id s.data.toList).length = Lib.nDigits id + 1 + s.size := by
  have e : s.data.toList.length = s.size := by rw [Array.length_toList]; rfl
  simp only [entry, List.length_append, List.length_cons, Lib.decDigits_length, e]
  omega

theorem spec_len (I : Nat → Nat) (S : Nat → ByteArray) : ∀ n, (Lib.join (bytesOf I S n) [44]).length = wantTo I S n + (n - 1)
  | 0 => by simp [bytesOf, Lib.join, wantTo]
  | 1 => by simp [bytesOf, join_one, wantTo, entry_length]
  | n + 2 => by
    have h := spec_len I S (n + 1)
    have e : bytesOf I S (n + 2) = bytesOf I S (n + 1) ++ [entry (I (n + 1)) (S (n + 1)).data.toList] := by
      simp [bytesOf, List.range_succ]
    have hw : wantTo I S (n + 2) = wantTo I S (n + 1) + (Lib.nDigits (I (n + 1)) + 1 + (S (n + 1)).size) := rfl
    rw [e, join_append _ (by simp) _ (bytesOf_ne (by omega)), join_one, List.length_append, h, List.length_append, entry_length, hw]
    simp only [List.length_cons, List.length_nil]
    omega

theorem spec_size_eq (I : Nat → Nat) (S : Nat → ByteArray) (n : Nat) : (specOf I S n).size = wantTo I S n + (n - 1) := by
  rw [← spec_len, ← specOf_data, Array.length_toList]
  rfl

end Go.Proofs.Qxb6630473aFmt
