/-
  copy(zzc, s) into a row that the call has just made, as long as s; and the two guards on lengths.
-/
import Derived.Test.Qxb6630395aFrom
import Derived.Deep.DeepCutAuto
namespace Go.Proofs.Qxb6630395a
open Go.RowKit

theorem wpList_copy_bytes {ops : Array Oper} {rest : List Oper} {o : Oper} {a : Act} {Q : Exit → Act → World → Prop} (w : World) (hgd : o.guard = none) (d s : Operand) (hop : o.op = .call { callee := .builtin .copy, args := #[d, s], argTypes := #[22, 22] })
    (base g n : Nat) (xs : List Value) (hd : a.eval d = .slice (some ⟨g, 0, none⟩) n n) (hown : w.ownsRow base 5 1 (.slice (some ⟨g, 0, none⟩) n n) n xs) (sp : Option Addr) (sc : Nat) (hs : a.eval s = .slice sp n sc) (z : Nat → Nat) (hz : BytesAt w sp n z)
    (hK : ∀ w', w'.ownsRow base 5 1 (.slice (some ⟨g, 0, none⟩) n n) n (vals z n) → w.grownBy w' (some g) → wpList Try.prog ops Q rest (a.put o.dst (goInt n)) w') : wpList Try.prog ops Q (o :: rest) a w := by
  have hsz : (Try.prog.info? 5).map (·.size) = some 1 := by kernel_rfl
  by_cases h0 : n = 0
  · subst h0
    refine wpList_copy_nothing hgd d s 22 22 hop 5 Try.underlying22 hsz _ sp 0 0 0 sc hd hs rfl ?_
    have hx : xs = [] := List.eq_nil_of_length_eq_zero (by simpa using hown.1)
    subst hx
    exact hK w hown (World.grownBy.refl _ _)
  · obtain ⟨_, _, b, off, hc⟩ := hz
    obtain ⟨rfl, _⟩ := hc 0 (by omega)
    rcases hown.2 with ⟨h', _⟩ | ⟨g', cap', cur, h', hb, hg, hnc, hcm, hcs, htake⟩
    · simp at h'
    · simp only [Value.slice.injEq, Option.some.injEq, Addr.mk.injEq, and_true, true_and] at h'
      obtain ⟨rfl, rfl⟩ := h'
      refine wpList_copy_own hgd d s 22 22 hop 5 Try.underlying22 hsz g 0 n n ⟨b, off, none⟩ n sc hd hs cur 5 hg (vals z n) (by rw [vals_len]; simp) ?_ (by rw [vals_len]; omega) ?_ ?_
      · intro j v hj
        have hjn : j < n := by
          have := List.getElem?_eq_some_iff.1 hj
          obtain ⟨hl, _⟩ := this
          rwa [vals_len] at hl
        rw [vals_get z n j hjn] at hj
        rw [Go.WideShapes.add_plain, (hc j hjn).2, hj]
      · intro v hv
        simp [vals] at hv
        obtain ⟨i, _, rfl⟩ := hv
        rfl
      · have e : (cur.toList.take 0 ++ (vals z n ++ cur.toList.drop (0 + (vals z n).length))) = vals z n := by
          rw [vals_len, List.drop_of_length_le (by simp; omega)]
          simp
        rw [e, vals_len]
        refine hK _ ⟨by rw [vals_len]; omega, Or.inr ⟨g, n, (vals z n).toArray, rfl, hb, setRow_heap w g _ _ _ _ hg, Nat.le_refl _, hcm, by simp [vals_len], by simpa using List.take_of_length_le (by rw [vals_len]; omega)⟩⟩ ⟨rfl, rfl, rfl, by simp [World.setRow], fun i _ hi => setRow_other w g i _ (fun e => hi (by rw [e]))⟩

/-- some bool is returned (behind a name) -/
def SomeBool (e : Ending) : Prop := ∃ x : Bool, e = .returned (.bool x)

theorem guard9_any (a1 : Option Addr) (n1 c1 : Nat) (a2 : Option Addr) (n2 c2 : Nat) (w : World) (h1 : n1 ≤ maxLen) (h2 : n2 ≤ maxLen) :
    Calls Try.prog 9 #[.slice a1 n1 c1, .slice a2 n2 c2] w fun e w' => SomeBool e ∧ w' = w := by
  unfold maxLen at h1 h2
  go_enter Try.func9, Try.ntmps9
  go_wp2
  all_goals
    go_ret
    exact ⟨⟨_, rfl⟩, rfl⟩

theorem guard5_any (a1 : Option Addr) (n1 c1 : Nat) (w : World) (h1 : n1 ≤ maxLen) :
    Calls Try.prog 5 #[.slice a1 n1 c1] w fun e w' => SomeBool e ∧ w' = w := by
  unfold maxLen at h1
  go_enter Try.func5, Try.ntmps5
  go_wp2
  all_goals
    go_ret
    exact ⟨⟨_, rfl⟩, rfl⟩

end Go.Proofs.Qxb6630395a
