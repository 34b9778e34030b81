/-
  zzLast, zzKeyAt, zzSeenBefore, zzModel: what each computes; the world is as it was.
-/
import Derived.Test.Qxb6630350aKV
namespace Go.Proofs.Qxb6630350a
open Go.RowKit

theorem size33 : ∀ w, (sizeOf (Try.prog.elem 22)).run Try.prog w = .ok 2 w := fun _ => by kernel_rfl

theorem tuple_sb {a b : ByteArray} {c d : Bool} (h : a = b) (h' : c = d) : Ending.returned (.tuple #[.string a, .bool c]) = .returned (.tuple #[.string b, .bool d]) := by rw [h, h']

theorem same_true {a b : ByteArray} (h : (a.toList == b.toList) = true) : a = b := by
  have := eq_of_beq h
  rw [ByteArray.toList_eq, ByteArray.toList_eq] at this
  exact WideShapes.bytes_inj this

theorem same_false {a b : ByteArray} (h : (a.toList == b.toList) = false) : a ≠ b := fun e => by
  subst e
  simp at h

/-- the first result of zzLast -/
def lastV (o : Option ByteArray) : ByteArray := o.getD ⟨#[]⟩

theorem lastOf_hit {K V : Nat → ByteArray} {n : Nat} {x : ByteArray} (h : ((K n).toList == x.toList) = true) : lastOf K V (n + 1) x = some (V n) := by
  rw [lastOf, if_pos (same_true h)]
theorem lastOf_miss {K V : Nat → ByteArray} {n : Nat} {x : ByteArray} (h : ((K n).toList == x.toList) = false) : lastOf K V (n + 1) x = lastOf K V n x := by
  rw [lastOf, if_neg (same_false h)]

set_option maxHeartbeats 400000 in
theorem last_any (a : Option Addr) (len cap : Nat) (K V : Nat → ByteArray) (x : ByteArray) (w : World) (h : KVs w a len cap K V) :
    Calls Try.prog 13 #[.slice a len cap, .string x] w fun e w' => e = .returned (.tuple #[.string (lastV (lastOf K V len x)), .bool (lastOf K V len x).isSome]) ∧ w' = w := by
  obtain ⟨hlen, hsz, b, off, hc⟩ := h
  unfold maxLen at hlen
  go_enter Try.func13, Try.ntmps13
  go_wp2
  go_loop [6] (fun i => ∃ k : Nat, k ≤ len ∧ i = .int .i64 ((k : Int) - 1) ∧ Hid (lastOf K V len x = lastOf K V k x)) (fun i => (intOf i + 1).toNat)
  case atStart => exact ⟨len, Nat.le_refl _, rfl, rfl⟩
  case round =>
    obtain ⟨k, hk, rfl, hl⟩ := hrel
    cases k with
    | zero =>
      go_wp2
      go_ret2
      exact ⟨tuple_sb (by rw [hl.out]; rfl) (by rw [hl.out]; rfl), rfl⟩
    | succ k =>
      obtain ⟨ha, hK, hV⟩ := hc k (by omega)
      have hix := fun w => indexAt_kv (P := Try.prog) (cap := cap) (b := b) (off := off) 22 Try.underlying22 size33 k (by omega : k < len) ha w
      clear ha
      go_wp2
      · have hs : ((K k).toList == x.toList) = true := by assumption
        go_ret2
        exact ⟨tuple_sb (by rw [hl.out, lastOf_hit hs]; rfl) (by rw [hl.out, lastOf_hit hs]; rfl), rfl⟩
      · have hs : ((K k).toList == x.toList) = false := by assumption
        go_round
        case rel => exact ⟨k, by omega, rfl, hl.out.trans (lastOf_miss hs)⟩
        case measure => simp [intOf]

/-- the key at position i of the first list followed by the second -/
def keyAt (n1 : Nat) (K1 K2 : Nat → ByteArray) (i : Nat) : ByteArray := if i < n1 then K1 i else K2 (i - n1)

theorem ret_str {a b : ByteArray} (h : a = b) : Ending.returned (.string a) = .returned (.string b) := by rw [h]

theorem keyAt_any (a1 : Option Addr) (n1 c1 : Nat) (K1 V1 : Nat → ByteArray) (a2 : Option Addr) (n2 c2 : Nat) (K2 V2 : Nat → ByteArray) (i : Nat) (w : World) (h1 : KVs w a1 n1 c1 K1 V1) (h2 : KVs w a2 n2 c2 K2 V2) (hi : i < n1 + n2) :
    Calls Try.prog 10 #[.slice a1 n1 c1, .slice a2 n2 c2, .int .i64 (i : Int)] w fun e w' => e = .returned (.string (keyAt n1 K1 K2 i)) ∧ w' = w := by
  obtain ⟨hl1, hs1, b1, o1, hc1⟩ := h1
  obtain ⟨hl2, hs2, b2, o2, hc2⟩ := h2
  unfold maxLen at hl1 hl2
  by_cases hlt : i < n1
  · obtain ⟨ha, hK, hV⟩ := hc1 i hlt
    have hix := fun w => indexAt_kv (P := Try.prog) (cap := c1) (b := b1) (off := o1) 22 Try.underlying22 size33 i hlt ha w
    clear ha
    go_enter Try.func10, Try.ntmps10
    go_wp2
    go_ret
    exact ⟨ret_str (by rw [keyAt, if_pos hlt]), rfl⟩
  · obtain ⟨ha, hK, hV⟩ := hc2 (i - n1) (by omega)
    have hix := fun w => indexAt_kv (P := Try.prog) (cap := c2) (b := b2) (off := o2) 22 Try.underlying22 size33 (i - n1) (by omega : i - n1 < n2) ha w
    rw [show ((i - n1 : Nat) : Int) = (i : Int) - (n1 : Int) from by omega] at hix
    clear ha
    go_enter Try.func10, Try.ntmps10
    go_wp2
    go_ret
    exact ⟨ret_str (by rw [keyAt, if_neg hlt]), rfl⟩

/-- is the key at i met at an earlier place? -/
def seenB (n1 : Nat) (K1 K2 : Nat → ByteArray) (i : Nat) : Bool := (List.range i).any fun j => (keyAt n1 K1 K2 j).toList == (keyAt n1 K1 K2 i).toList

theorem seenB_true {n1 : Nat} {K1 K2 : Nat → ByteArray} {i j : Nat} (hj : j < i) (h : ((keyAt n1 K1 K2 j).toList == (keyAt n1 K1 K2 i).toList) = true) : seenB n1 K1 K2 i = true :=
  List.any_eq_true.2 ⟨j, List.mem_range.2 hj, h⟩
theorem seenB_false {n1 : Nat} {K1 K2 : Nat → ByteArray} {i : Nat} (h : ∀ j, j < i → ((keyAt n1 K1 K2 j).toList == (keyAt n1 K1 K2 i).toList) = false) : seenB n1 K1 K2 i = false :=
  List.any_eq_false.2 fun j hj => by simpa using h j (List.mem_range.1 hj)

theorem ret_bool {a b : Bool} (h : a = b) : Ending.returned (.bool a) = .returned (.bool b) := by rw [h]

set_option maxHeartbeats 400000 in
theorem seen_any (a1 : Option Addr) (n1 c1 : Nat) (K1 V1 : Nat → ByteArray) (a2 : Option Addr) (n2 c2 : Nat) (K2 V2 : Nat → ByteArray) (i : Nat) (w : World) (h1 : KVs w a1 n1 c1 K1 V1) (h2 : KVs w a2 n2 c2 K2 V2) (hi : i < n1 + n2) (hb : n1 + n2 ≤ 9000000) :
    Calls Try.prog 9 #[.slice a1 n1 c1, .slice a2 n2 c2, .int .i64 (i : Int)] w fun e w' => e = .returned (.bool (seenB n1 K1 K2 i)) ∧ w' = w := by
  go_enter Try.func9, Try.ntmps9
  go_wp2_with (go_at_call 10; refine (keyAt_any _ _ _ _ _ _ _ _ _ _ i _ h1 h2 hi).mono ?_; rintro e w' ⟨rfl, rfl⟩)
  go_loop [8] (fun j => ∃ k : Nat, k ≤ i ∧ j = .int .i64 (k : Int) ∧ Hid (∀ j, j < k → ((keyAt n1 K1 K2 j).toList == (keyAt n1 K1 K2 i).toList) = false)) (fun j => i - (intOf j).toNat)
  case atStart => exact ⟨0, Nat.zero_le _, rfl, fun j hj => absurd hj (Nat.not_lt_zero _)⟩
  case round =>
    obtain ⟨k, hk, rfl, hl⟩ := hrel
    by_cases hlt : k < i
    · go_wp2_with (go_at_call 10; refine (keyAt_any _ _ _ _ _ _ _ _ _ _ k _ h1 h2 (by omega)).mono ?_; rintro e w' ⟨rfl, rfl⟩)
      · have hs : ((keyAt n1 K1 K2 k).toList == (keyAt n1 K1 K2 i).toList) = true := by assumption
        go_ret
        exact ⟨ret_bool (seenB_true hlt hs).symm, rfl⟩
      · have hs : ((keyAt n1 K1 K2 k).toList == (keyAt n1 K1 K2 i).toList) = false := by assumption
        go_round
        case rel =>
          refine ⟨k + 1, by omega, by go_num, fun j hj => ?_⟩
          by_cases e : j = k
          · subst e; exact hs
          · exact hl.out j (by omega)
        case measure => simp [intOf]; omega
    · obtain rfl : k = i := by omega
      go_wp2
      go_ret
      exact ⟨ret_bool (seenB_false hl.out).symm, rfl⟩

/-- what a key reads behind the changes: 'oc' what the changes say of it, 'os' what the settings hold -/
def mergeO (oc os : Option ByteArray) : Option ByteArray :=
  match oc with
  | some v => if v.toList.isEmpty then none else some v
  | none => os

set_option maxHeartbeats 400000 in
theorem model_any (a1 : Option Addr) (n1 c1 : Nat) (K1 V1 : Nat → ByteArray) (a2 : Option Addr) (n2 c2 : Nat) (K2 V2 : Nat → ByteArray) (x : ByteArray) (w : World) (h1 : KVs w a1 n1 c1 K1 V1) (h2 : KVs w a2 n2 c2 K2 V2) :
    Calls Try.prog 11 #[.slice a1 n1 c1, .slice a2 n2 c2, .string x] w fun e w' => e = .returned (.tuple #[.string (lastV (mergeO (lastOf K2 V2 n2 x) (lastOf K1 V1 n1 x))), .bool (mergeO (lastOf K2 V2 n2 x) (lastOf K1 V1 n1 x)).isSome]) ∧ w' = w := by
  have C2 := fun w (h2 : KVs w a2 n2 c2 K2 V2) => last_any a2 n2 c2 K2 V2 x w h2
  cases ho : lastOf K2 V2 n2 x with
  | none =>
    rw [ho] at C2
    go_enter Try.func11, Try.ntmps11
    go_wp2_with fail
    refine (C2 _ h2).mono ?_
    rintro e w' ⟨rfl, rfl⟩
    go_wp2_with fail
    refine (last_any _ _ _ _ _ x _ h1).mono ?_
    rintro e w' ⟨rfl, rfl⟩
    go_wp2
    go_ret2
    exact ⟨rfl, rfl⟩
  | some v =>
    rw [ho] at C2
    go_enter Try.func11, Try.ntmps11
    go_wp2_with fail
    refine (C2 _ h2).mono ?_
    rintro e w' ⟨rfl, rfl⟩
    go_wp2
    · have hs : v.toList.isEmpty = true := by assumption
      go_ret2
      exact ⟨tuple_sb (by simp [mergeO, hs, lastV]) (by simp [mergeO, hs]), rfl⟩
    · have hs : v.toList.isEmpty = false := by assumption
      go_ret2
      exact ⟨tuple_sb (by simp [mergeO, hs]) (by simp [mergeO, hs]), rfl⟩

end Go.Proofs.Qxb6630350a
