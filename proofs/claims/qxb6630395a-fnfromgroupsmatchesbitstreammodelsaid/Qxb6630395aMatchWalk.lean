/-
  FnFromGroupsMatchesBitStreamModel: the walk.
-/
import Derived.Test.Qxb6630395aModel
namespace Go.Proofs.Qxb6630395a
open Go.RowKit

set_option maxHeartbeats 1000000 in
set_option maxRecDepth 100000 in
theorem match_walk (a1 : Option Addr) (n1 c1 : Nat) (za : Nat → Nat) (w : World) (h1 : BytesAt w a1 n1 za) (hn1 : a1 = none → n1 = 0) :
    Calls Try.prog 3 #[.slice a1 n1 c1] w fun e w' => e = .returned (.bool true) ∧ Below w.heap.size w w' := by
  have hl1 := h1.1
  obtain ⟨i0, hi, hz0, hz1, hz2⟩ := info_parts info5
  have qn : ∀ (w : World) (a : Option Addr) (n c n' c' : Nat), (binOp .neq 22 (.slice a n c) (.slice none n' c')).run Try.prog w = .ok (.bool (!a.isNone)) w := fun w a n c n' c' => run_neq_slice_nil_any w _ _ a n c n' c' Try.underlying22
  have qe : ∀ (w : World) (a : Option Addr) (n c n' c' : Nat), (binOp .eql 22 (.slice a n c) (.slice none n' c')).run Try.prog w = .ok (.bool a.isNone) w := fun w a n c n' c' => Lib.run_eql_slice_nil w _ _ a n c n' c' Try.underlying22
  go_enter Try.func3, Try.ntmps3
  go_wp2_with fail
  refine (guard5_any a1 n1 c1 _ hl1).mono ?_
  rintro e w' ⟨⟨x, rfl⟩, hw⟩
  subst w'
  unfold maxLen at hl1
  cases x with
  | false =>
    go_wp2
    go_ret
    exact ⟨rfl, Below.refl _ _⟩
  | true =>
  by_cases g1 : 1048576 < n1
  · go_wp2
    go_ret
    exact ⟨rfl, Below.refl _ _⟩
  go_upto_if 15 with fail
  go_cut [0, 3] (fun s0 _ wc => ∃ a' c', s0 = .slice a' n1 c' ∧ BytesAt wc a' n1 za ∧ Below w.heap.size w wc)
  case first =>
    cases a1 with
    | none =>
      obtain rfl : n1 = 0 := hn1 rfl
      clear hn1
      go_wp2
      go_meet
      case rel => exact ⟨none, c1, rfl, h1, Below.refl _ _⟩
    | some x =>
      clear hn1
      go_wp2_with (first
        | (at_make; refine wpList_make_full _ rfl _ _ 22 rfl w.heap.size 5 i0 (.int .u8 0) 1 Try.underlying22 hi hz0 hz1 _ _ _ _ n1 rfl rfl rfl rfl (by rw [hz2]; omega) (by unfold maxLen; omega) (Nat.le_refl _) ?_; intro w0 hown0 hgrow0)
        | (have _t := hown0; refine wpList_copy_bytes _ rfl _ _ rfl w.heap.size w.heap.size n1 _ rfl hown0 _ _ rfl za (h1.below ((Below.refl _ _).grown hgrow0 (Nat.le_refl _) (fun k h => by cases h)) h1.lt) ?_; intro w1 hown1 hgrow1))
      go_meet
      case rel => exact ⟨_, _, rfl, bytesAt_of_owns hown1 (by unfold maxLen; omega) h1.2.1, ((Below.refl _ _).grown hgrow0 (Nat.le_refl _) (fun k h => by cases h)).grown hgrow1 hgrow0.size (fun k h => by cases h; exact Nat.le_refl _)⟩
  case rest =>
    obtain ⟨a1', c1', rfl, hA, hB1⟩ := hcut
    clear hn1 h1
    have hws := hB1.size
    cases hok : okB za n1 with
    | false =>
      go_wp2_with fail
      refine (model_any a1' n1 c1' za _ hA (by omega)).mono ?_
      rintro e w1 ⟨_, p1, hb1⟩
      obtain rfl := p1 hok
      have hA1 := hA.below hb1 hA.lt
      go_wp2_with fail
      refine (zzfrom_any a1' n1 c1' za _ hA1 (by omega)).mono ?_
      rintro e w2 ⟨_, p2, hb2, hs2⟩
      obtain ⟨v, rfl⟩ := p2 hok
      clear hok p1 p2
      go_wp2
      go_ret
      exact ⟨rfl, (hB1.trans (hb1.mono hws)).trans (hb2.mono (Nat.le_trans hws hb1.size))⟩
    | true =>
      go_wp2_with fail
      refine (model_any a1' n1 c1' za _ hA (by omega)).mono ?_
      rintro e w1 ⟨p1, _, hb1⟩
      obtain ⟨rfl, vM, hs1⟩ := p1 hok
      have hA1 := hA.below hb1 hA.lt
      go_wp2_with fail
      refine (zzfrom_any a1' n1 c1' za _ hA1 (by omega)).mono ?_
      rintro e w2 ⟨p2, _, hb2, hs2⟩
      obtain ⟨rfl, vF⟩ := p2 hok
      have vM2 := vM.below hb2 (fun x hx _ => by cases hx; exact hs1)
      have hE : Below w.heap.size w w2 := (hB1.trans (hb1.mono hws)).trans (hb2.mono (Nat.le_trans hws hb1.size))
      clear hok p1 p2 vM hA hA1 hb1 hb2 hB1
      go_wp2_with (go_at_call 8; refine (same_any _ _ _ _ _ _ _ vF vM2).mono ?_; rintro e w' ⟨rfl, d, rfl⟩)
      go_ret
      exact ⟨rfl, below_drewN hE _⟩

end Go.Proofs.Qxb6630395a
