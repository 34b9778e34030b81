/-
  Maps from strings to strings, told key by key: 'Reads D f': the datum D holds just the entries of f.
-/
import Derived.Maps.Ext
import Derived.Maps.StringElems
namespace Go.Proofs.Qxb6630350a
open Go.Maps

def keyLit (x : ByteArray) : Lit := .string x.data.toList
def valLit (x : ByteArray) : DataW Unit := .lit (.string x.data.toList)

theorem keyLit_key (x : ByteArray) : WideAt.IsKeyLit (keyLit x) := trivial
theorem keyLit_inj {x y : ByteArray} (h : keyLit x = keyLit y) : x = y := WideShapes.bytes_inj (by simpa [keyLit] using h)

structure Reads (D : DataW Unit) (f : ByteArray → Option ByteArray) : Prop where
  tidy : Tidy D
  has : ∀ x, Maps.has D (keyLit x) = (f x).isSome
  val : ∀ x v, f x = some v → ∀ z, D.atKey (keyLit x) z = valLit v
  keys : ∀ es, D = .map es → ∀ p ∈ es, ∃ x, p.1 = keyLit x

theorem reads_empty : Reads (.map []) (fun _ => none) :=
  ⟨tidy_empty, fun _ => rfl, (fun _ _ h => by cases h), (fun es e p hp => by cases e; cases hp)⟩

theorem Reads.congr {D : DataW Unit} {f g : ByteArray → Option ByteArray} (h : Reads D f) (e : ∀ x, f x = g x) : Reads D g := by
  have : f = g := funext e
  exact this ▸ h

def putF (f : ByteArray → Option ByteArray) (k v : ByteArray) : ByteArray → Option ByteArray := fun x => if k = x then some v else f x
def delF (f : ByteArray → Option ByteArray) (k : ByteArray) : ByteArray → Option ByteArray := fun x => if k = x then none else f x

theorem Reads.put {D : DataW Unit} {f : ByteArray → Option ByteArray} (h : Reads D f) (k v : ByteArray) : Reads (D.put (keyLit k) (valLit v)) (putF f k v) := by
  refine ⟨h.tidy.put (keyLit_key k) _, fun x => ?_, fun x u hx z => ?_, fun es e p hp => ?_⟩
  · by_cases e : k = x
    · subst e
      rw [has_put_same h.tidy.isMap (keyLit_key k)]
      simp [putF]
    · rw [has_put_other (fun e' => e (keyLit_inj e').symm), h.has x]
      simp [putF, e]
  · by_cases e : k = x
    · subst e
      simp [putF] at hx
      subst hx
      exact atKey_put_same h.tidy.isMap (keyLit_key k) _ _
    · simp [putF, e] at hx
      rw [atKey_put_other (fun e' => e (keyLit_inj e').symm), h.val x u hx z]
  · obtain ⟨es0, rfl⟩ := h.tidy.isMap
    have e' : DataW.insert (keyLit k, valLit v) (es0.filter fun p => !p.1.sameKey (keyLit k)) = es := by
      have e1 : DataW.map (DataW.insert (keyLit k, valLit v) (es0.filter fun p => !p.1.sameKey (keyLit k))) = DataW.map es := e
      cases e1; rfl
    rw [← e'] at hp
    rcases List.mem_cons.1 ((WideShapes.insert_perm (keyLit k, valLit v) _).mem_iff.1 hp) with rfl | hp'
    · exact ⟨k, rfl⟩
    · exact h.keys es0 rfl p (List.mem_filter.1 hp').1

theorem Reads.del {D : DataW Unit} {f : ByteArray → Option ByteArray} (h : Reads D f) (k : ByteArray) : Reads (D.del (keyLit k)) (delF f k) := by
  refine ⟨h.tidy.del _, fun x => ?_, fun x u hx z => ?_, fun es e p hp => ?_⟩
  · by_cases e : k = x
    · subst e
      rw [has_del_same]
      simp [delF]
    · rw [has_del_other (fun e' => e (keyLit_inj e').symm), h.has x]
      simp [delF, e]
  · by_cases e : k = x
    · subst e
      simp [delF] at hx
    · simp [delF, e] at hx
      rw [atKey_del_other (fun e' => e (keyLit_inj e').symm), h.val x u hx z]
  · obtain ⟨es0, rfl⟩ := h.tidy.isMap
    have e' : (es0.filter fun p => !p.1.sameKey (keyLit k)) = es := by
      have e1 : DataW.map (es0.filter fun p => !p.1.sameKey (keyLit k)) = DataW.map es := e
      cases e1; rfl
    rw [← e'] at hp
    exact h.keys es0 rfl p (List.mem_filter.1 hp).1

/-- an empty function: no entry -/
theorem Reads.size_zero {D : DataW Unit} {f : ByteArray → Option ByteArray} (h : Reads D f) (hn : ∀ x, f x = none) : Maps.size D = 0 := by
  obtain ⟨es, rfl⟩ := h.tidy.isMap
  cases es with
  | nil => rfl
  | cons p r =>
    obtain ⟨x, hx⟩ := h.keys _ rfl p (by simp)
    have := h.has x
    rw [hn x] at this
    have ht : Maps.has (.map (p :: r)) (keyLit x) = true := List.any_eq_true.2 ⟨p, by simp, by rw [hx]; exact WideAt.sameKey_self (keyLit_key x)⟩
    rw [ht] at this
    cases this

theorem Reads.size_del {D : DataW Unit} {f : ByteArray → Option ByteArray} (h : Reads D f) (k : ByteArray) : Maps.size (D.del (keyLit k)) + (if (f k).isSome then 1 else 0) = Maps.size D := by
  have := Maps.size_del (k := keyLit k) h.tidy
  rw [h.has k] at this
  exact this

end Go.Proofs.Qxb6630350a
