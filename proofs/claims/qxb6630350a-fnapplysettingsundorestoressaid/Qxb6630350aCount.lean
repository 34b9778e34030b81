/-
  The plain law of the count: the number of entries of a map whose keys all stand on a list is the number of places of the list that bear a key of the map for the first time.
-/
import Derived.Test.Qxb6630350aBuild
namespace Go.Proofs.Qxb6630350a
open Go.Maps Go.RowKit

/-- of the first k places: how many bear, for the first time, a key that f holds -/
def countTo (key : Nat → ByteArray) (f : ByteArray → Option ByteArray) (seen : Nat → Bool) : Nat → Nat
  | 0 => 0
  | k + 1 => countTo key f seen k + if seen k then 0 else if (f (key k)).isSome then 1 else 0

theorem countTo_le (key : Nat → ByteArray) (f : ByteArray → Option ByteArray) (seen : Nat → Bool) : ∀ k, countTo key f seen k ≤ k
  | 0 => Nat.le_refl _
  | k + 1 => by
    have := countTo_le key f seen k
    unfold countTo
    split
    · omega
    · split <;> omega

theorem countTo_seen {key : Nat → ByteArray} {f : ByteArray → Option ByteArray} {seen : Nat → Bool} {k : Nat} (h : seen k = true) : countTo key f seen (k + 1) = countTo key f seen k := by
  rw [countTo, h]; simp
theorem countTo_yes {key : Nat → ByteArray} {f : ByteArray → Option ByteArray} {seen : Nat → Bool} {k : Nat} (h : seen k = false) (h' : (f (key k)).isSome = true) : countTo key f seen (k + 1) = countTo key f seen k + 1 := by
  rw [countTo, h, h']; simp
theorem countTo_no {key : Nat → ByteArray} {f : ByteArray → Option ByteArray} {seen : Nat → Bool} {k : Nat} (h : seen k = false) (h' : (f (key k)).isSome = false) : countTo key f seen (k + 1) = countTo key f seen k := by
  rw [countTo, h, h']; simp

/-- f without the first k keys -/
def restTo (key : Nat → ByteArray) (f : ByteArray → Option ByteArray) : Nat → ByteArray → Option ByteArray
  | 0 => f
  | k + 1 => delF (restTo key f k) (key k)

theorem restTo_hit {key : Nat → ByteArray} {f : ByteArray → Option ByteArray} {i : Nat} : ∀ {k : Nat}, i < k → restTo key f k (key i) = none
  | 0, h => absurd h (Nat.not_lt_zero _)
  | k + 1, h => by
    unfold restTo delF
    by_cases e : key k = key i
    · rw [if_pos e]
    · rw [if_neg e]
      have : i ≠ k := fun e' => e (by rw [e'])
      exact restTo_hit (by omega)

theorem restTo_miss {key : Nat → ByteArray} {f : ByteArray → Option ByteArray} {x : ByteArray} : ∀ {k : Nat}, (∀ i, i < k → key i ≠ x) → restTo key f k x = f x
  | 0, _ => rfl
  | k + 1, h => by
    unfold restTo delF
    rw [if_neg (h k (by omega))]
    exact restTo_miss (fun i hi => h i (by omega))

theorem rest_reads {key : Nat → ByteArray} {f : ByteArray → Option ByteArray} {seen : Nat → Bool} (hseen : ∀ k, seen k = (List.range k).any fun j => (key j).toList == (key k).toList) {D : DataW Unit} (hD : Reads D f) :
    ∀ k, ∃ D' : DataW Unit, Reads D' (restTo key f k) ∧ Maps.size D' + countTo key f seen k = Maps.size D
  | 0 => ⟨D, hD, rfl⟩
  | k + 1 => by
    obtain ⟨D', h1, h2⟩ := rest_reads hseen hD k
    refine ⟨_, h1.del (key k), ?_⟩
    have h3 := h1.size_del (key k)
    cases hs : seen k with
    | true =>
      rw [countTo_seen hs]
      have : restTo key f k (key k) = none := by
        rw [hseen] at hs
        obtain ⟨j, hj, e⟩ := List.any_eq_true.1 hs
        rw [← same_true e]
        exact restTo_hit (List.mem_range.1 hj)
      rw [this] at h3
      simp at h3
      omega
    | false =>
      have : restTo key f k (key k) = f (key k) := by
        rw [hseen] at hs
        refine restTo_miss (fun i hi => ?_)
        have := List.any_eq_false.1 hs i (List.mem_range.2 hi)
        exact same_false (by simpa using this)
      rw [this] at h3
      cases hf : (f (key k)).isSome with
      | true => rw [countTo_yes hs hf]; rw [hf] at h3; simp at h3; omega
      | false => rw [countTo_no hs hf]; rw [hf] at h3; simp at h3; omega

theorem size_is_count {key : Nat → ByteArray} {f : ByteArray → Option ByteArray} {seen : Nat → Bool} (hseen : ∀ k, seen k = (List.range k).any fun j => (key j).toList == (key k).toList) {D : DataW Unit} (hD : Reads D f) (n : Nat)
    (hcov : ∀ x, (f x).isSome = true → ∃ i, i < n ∧ key i = x) : Maps.size D = countTo key f seen n := by
  obtain ⟨D', h1, h2⟩ := rest_reads hseen hD n
  have : Maps.size D' = 0 := h1.size_zero (fun x => by
    by_cases e : ∃ i, i < n ∧ key i = x
    · obtain ⟨i, hi, rfl⟩ := e
      exact restTo_hit hi
    · rw [restTo_miss (fun i hi e' => e ⟨i, hi, e'⟩)]
      cases hf : f x with
      | none => rfl
      | some u => exact absurd (hcov x (by rw [hf]; rfl)) e)
  omega

theorem lastOf_cov {K V : Nat → ByteArray} {x : ByteArray} : ∀ {n : Nat}, (lastOf K V n x).isSome = true → ∃ i, i < n ∧ K i = x
  | 0, h => by cases h
  | n + 1, h => by
    by_cases e : K n = x
    · exact ⟨n, by omega, e⟩
    · rw [lastOf, if_neg e] at h
      obtain ⟨i, hi, hx⟩ := lastOf_cov h
      exact ⟨i, by omega, hx⟩

/-- what the settings hold behind the changes -/
def merged (K1 V1 : Nat → ByteArray) (n1 : Nat) (K2 V2 : Nat → ByteArray) (n2 : Nat) (x : ByteArray) : Option ByteArray := mergeO (lastOf K2 V2 n2 x) (lastOf K1 V1 n1 x)

theorem merged_cov {K1 V1 : Nat → ByteArray} {n1 : Nat} {K2 V2 : Nat → ByteArray} {n2 : Nat} {x : ByteArray} (h : (merged K1 V1 n1 K2 V2 n2 x).isSome = true) : ∃ i, i < n1 + n2 ∧ keyAt n1 K1 K2 i = x := by
  unfold merged at h
  cases hc : lastOf K2 V2 n2 x with
  | some v =>
    obtain ⟨i, hi, hx⟩ := lastOf_cov (K := K2) (V := V2) (n := n2) (x := x) (by rw [hc]; rfl)
    refine ⟨n1 + i, by omega, ?_⟩
    rw [keyAt, if_neg (by omega), show n1 + i - n1 = i by omega, hx]
  | none =>
    rw [hc] at h
    obtain ⟨i, hi, hx⟩ := lastOf_cov (K := K1) (V := V1) (n := n1) (x := x) h
    exact ⟨i, by omega, by rw [keyAt, if_pos hi, hx]⟩

end Go.Proofs.Qxb6630350a
