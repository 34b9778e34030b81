/-
  zzBuild and ApplySettings.
-/
import Derived.Test.Qxb6630350aMapAt
namespace Go.Proofs.Qxb6630350a
open Go.Maps Go.RowKit

theorem KVs.below {w w' : World} {a : Option Addr} {len cap : Nat} {K V : Nat → ByteArray} {B : Nat} (h : KVs w a len cap K V) (hb : Below B w w') (hB : ∀ x, a = some x → 0 < len → x.block < B) : KVs w' a len cap K V := by
  obtain ⟨h1, h2, b, off, hc⟩ := h
  refine ⟨h1, h2, b, off, fun i hi => ?_⟩
  obtain ⟨e, c1, c2⟩ := hc i hi
  have hlt : b < B := hB _ e (by omega)
  exact ⟨e, (hb.cell (p := ⟨b, _, none⟩) hlt).trans c1, (hb.cell (p := ⟨b, _, none⟩) hlt).trans c2⟩

theorem KVs.lt {w : World} {a : Option Addr} {len cap : Nat} {K V : Nat → ByteArray} (h : KVs w a len cap K V) : ∀ x, a = some x → 0 < len → x.block < w.heap.size := by
  obtain ⟨h1, h2, b, off, hc⟩ := h
  intro x hx hl
  obtain ⟨e, c1, c2⟩ := hc 0 hl
  rw [e] at hx
  cases hx
  exact block_lt_of_cell c1

set_option maxHeartbeats 400000 in
theorem build_any (a : Option Addr) (len cap : Nat) (K V : Nat → ByteArray) (w : World) (h : KVs w a len cap K V) (hmax : len ≤ 9000000) :
    Calls Try.prog 7 #[.slice a len cap] w fun e w' => e = .returned (.map (some w.heap.size)) ∧ MapAt w' w.heap.size len (lastOf K V len) ∧ Below w.heap.size w w' ∧ w.heap.size < w'.heap.size := by
  have hmm := @run_makeMap Try.prog
  have hlt0 := h.lt
  obtain ⟨hlen, hsz, b, off, hc⟩ := h
  unfold maxLen at hlen
  go_enter Try.func7, Try.ntmps7
  go_wp2
  go_loopw [4] (fun i wr => ∃ k : Nat, k ≤ len ∧ i = .int .i64 k ∧ MapAt wr w.heap.size k (lastOf K V k) ∧ Below w.heap.size w wr ∧ w.heap.size < wr.heap.size) (fun i _ => len - (intOf i).toNat)
  case atStart => exact ⟨0, Nat.zero_le _, rfl, MapAt.made w, (Below.refl _ _).alloc (Nat.le_refl _) _, by simp⟩
  case round =>
    obtain ⟨k, hk, rfl, hm, hbel, hsize⟩ := hrel
    by_cases hlt : k < len
    · obtain ⟨ha, hK, hV⟩ := hc k hlt
      have hix := fun w => indexAt_kv (P := Try.prog) (cap := cap) (b := b) (off := off) 22 Try.underlying22 size33 k hlt ha w
      have hblk : b < w.heap.size := hlt0 _ ha (by omega)
      have hK' : wr.cell? ⟨b, off + k * 2, none⟩ = some (.string (K k)) := (hbel.cell (p := ⟨b, _, none⟩) hblk).trans hK
      have hV' : wr.cell? ⟨b, off + k * 2 + 1, none⟩ = some (.string (V k)) := (hbel.cell (p := ⟨b, _, none⟩) hblk).trans hV
      obtain ⟨w1, hrun, hm1, ht1⟩ := hm.drew.store (by unfold maxLen; omega) (hsz k hlt).1 (hsz k hlt).2
      clear ha hK hV hc
      go_wp2
      go_region
      all_goals go_wp2
      all_goals go_roundw
      case rel =>
        have hg := ht1.grown
        refine ⟨k + 1, by omega, by go_num, hm1, hbel.drew.grown hg (by have := hbel.size; exact this) (fun j hj => by cases hj; exact Nat.le_refl _), ?_⟩
        have := hg.size
        exact Nat.lt_of_lt_of_le hsize this
      case measure => simp [intOf]; omega
    · obtain rfl : k = len := by omega
      go_wp2
      go_ret
      exact ⟨rfl, hm, hbel, hsize⟩

/-- what the settings hold while the entries that 'left' names are still to come -/
def stepF (f fc : ByteArray → Option ByteArray) (left : ByteArray → Bool) : ByteArray → Option ByteArray := fun x => if left x then f x else mergeO (fc x) (f x)

theorem stepF_start (f fc : ByteArray → Option ByteArray) (x : ByteArray) : f x = stepF f fc (fun x => (fc x).isSome) x := by
  unfold stepF mergeO
  cases h : fc x <;> simp [h]
theorem stepF_end {f fc : ByteArray → Option ByteArray} {left : ByteArray → Bool} (h : ∀ x, left x = false) (x : ByteArray) : stepF f fc left x = mergeO (fc x) (f x) := by
  simp [stepF, h x]
theorem stepF_del {f fc : ByteArray → Option ByteArray} {left : ByteArray → Bool} {x c : ByteArray} (hx : fc x = some c) (hc : c.toList.isEmpty = true) (z : ByteArray) :
    delF (stepF f fc left) x z = stepF f fc (fun z => left z && !decide (z = x)) z := by
  unfold delF stepF
  by_cases e : x = z
  · subst e; simp [hx, mergeO, hc]
  · have e' : ¬ z = x := fun h => e h.symm
    simp [e, e']
theorem stepF_put {f fc : ByteArray → Option ByteArray} {left : ByteArray → Bool} {x c : ByteArray} (hx : fc x = some c) (hc : c.toList.isEmpty = false) (z : ByteArray) :
    putF (stepF f fc left) x c z = stepF f fc (fun z => left z && !decide (z = x)) z := by
  unfold putF stepF
  by_cases e : x = z
  · subst e; simp [hx, mergeO, hc]
  · have e' : ¬ z = x := fun h => e h.symm
    simp [e, e']

set_option maxHeartbeats 800000 in
set_option maxRecDepth 100000 in
theorem apply_any (b n c nc : Nat) (f fc : ByteArray → Option ByteArray) (w : World) (hf : MapAt w b n f) (hfc : MapAt w c nc fc) (hbc : b ≠ c) (hn : n + nc < 9000000) :
    Calls Try.prog 8 #[.map (some b), .map (some c)] w fun e w' => e = .returned (.tuple #[]) ∧ MapAt w' b (n + nc) (fun x => mergeO (fc x) (f x)) ∧ w.grownBy w' (some b) := by
  have hbl := hf.lt
  have hcl := hfc.lt
  go_enter Try.func8, Try.ntmps8
  go_wp2_with (first
    | (at_range; refine wpList_range_at _ rfl _ rfl c nc fc rfl hfc ?_; intro w0 cnt0 hcnt0 hrg0 hg0 hs0)
    | go_in)
  go_frame
  go_loopw [4] (fun _ wr => ∃ (left : ByteArray → Bool) (cnt m : Nat), RangeAt wr c w.heap.size nc fc left cnt ∧ MapAt wr b m (stepF f fc left) ∧ m + cnt ≤ n + nc ∧ w.grownBy wr (some b)) (fun _ wr => wr.rangeLeft c w.heap.size)
  case atStart => exact ⟨_, cnt0, n, hrg0, (hf.kept hg0 (by simp)).congr (stepF_start f fc), by omega, hg0.but _⟩
  case round =>
    obtain ⟨left, cnt, m, hrg, hm, hmc, hgw⟩ := hrel
    have hws := hgw.size
    go_wp2_with (first
      | (at_next; refine wpList_next_at _ rfl _ rfl c w.heap.size nc fc left cnt rfl hrg ?_ ?_)
      | go_in)
    · intro hl0
      go_wp2
      go_end0
      exact ⟨rfl, (hm.congr (stepF_end hl0)).mono (by omega), hgw⟩
    · intro x v w1 cnt1 hwx hwv hlx hat hrg1 hlt hg1 hs1 hen
      have hm1 := hm.kept hg1 (fun e => by have := Option.some.inj e; omega)
      have hgw1 : w.grownBy w1 (some b) := hgw.andThen hg1 (fun j hj => by cases hj; exact Or.inl (Nat.le_refl _))
      clear hm hgw
      cases hem : v.toList.isEmpty with
      | true =>
        go_wp2_with (first
          | (at_delete; refine wpList_delete_at _ rfl _ _ rfl b m _ rfl hm1 x rfl hwx ?_; intro w2 hm2 ht2; go_frame)
          | go_in)
        have hrg2 := hrg1.kept ht2.grown (fun e => hbc (Option.some.inj e).symm) (fun e => by have := Option.some.inj e; omega)
        go_roundw
        case rel => exact ⟨_, cnt1, m, hrg2, hm2.congr (stepF_del hat hem), by omega, hgw1.andThen ht2.grown (fun j hj => by cases hj; exact Or.inr rfl)⟩
        case measure => rw [hrg2.left_eq, hrg.left_eq]; exact hlt
      | false =>
        go_wp2_with (first
          | (at_mapUpdate; refine wpList_store_at _ rfl _ _ _ rfl b m _ rfl hm1 (by unfold maxLen; omega) x v rfl rfl hwx hwv ?_; intro w2 hm2 ht2; go_frame)
          | go_in)
        have hrg2 := hrg1.kept ht2.grown (fun e => hbc (Option.some.inj e).symm) (fun e => by have := Option.some.inj e; omega)
        go_roundw
        case rel => exact ⟨_, cnt1, m + 1, hrg2, hm2.congr (stepF_put hat hem), by omega, hgw1.andThen ht2.grown (fun j hj => by cases hj; exact Or.inr rfl)⟩
        case measure => rw [hrg2.left_eq, hrg.left_eq]; exact hlt

end Go.Proofs.Qxb6630350a
