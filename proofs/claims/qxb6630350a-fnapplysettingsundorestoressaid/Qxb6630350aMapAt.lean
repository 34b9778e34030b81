/-
  A map[string]string of the call's own, in block b, told by a plain function; the laws at the operations.
-/
import Derived.Test.Qxb6630350aMaps
import Derived.Test.Qxb6630350aLast
import Derived.Deep.Draws
namespace Go.Proofs.Qxb6630350a
open Go.Maps Go.RowKit

theorem law9 : Keyed Try.prog 9 := string_keyed Try.underlying9
theorem zero9 (w : World) : (zeroValue 9).run Try.prog w = .ok (.string ⟨#[]⟩) w := by kernel_rfl

/-- block b is a map of at most n entries that holds just what f says -/
def MapAt (w : World) (b n : Nat) (f : ByteArray → Option ByteArray) : Prop := ∃ D : DataW Unit, w.ownsMap Try.prog 9 (plainElem Try.prog 9) b n D ∧ Reads D f

variable {w : World} {b n : Nat} {f : ByteArray → Option ByteArray}

theorem MapAt.made (w : World) : MapAt (w.alloc (.map #[] 0)) w.heap.size 0 (fun _ => none) := ⟨_, World.ownsMap_made _ _ _ _, reads_empty⟩
theorem MapAt.lt (h : MapAt w b n f) : b < w.heap.size := h.choose_spec.1.lt
theorem MapAt.mono (h : MapAt w b n f) {n' : Nat} (hn : n ≤ n') : MapAt w b n' f := let ⟨D, h1, h2⟩ := h; ⟨D, h1.mono hn, h2⟩
theorem MapAt.congr (h : MapAt w b n f) {g : ByteArray → Option ByteArray} (e : ∀ x, f x = g x) : MapAt w b n g := let ⟨D, h1, h2⟩ := h; ⟨D, h1, h2.congr e⟩
theorem MapAt.kept {w' : World} {row : Option Nat} (h : MapAt w b n f) (hg : w.grownBy w' row) (hne : some b ≠ row) : MapAt w' b n f := let ⟨D, h1, h2⟩ := h; ⟨D, h1.kept hg hne, h2⟩
theorem MapAt.alloc (h : MapAt w b n f) (o : Obj) : MapAt (w.alloc o) b n f := let ⟨D, h1, h2⟩ := h; ⟨D, h1.alloc o, h2⟩
theorem MapAt.drew (h : MapAt w b n f) : MapAt w.drew b n f := let ⟨D, h1, h2⟩ := h; ⟨D, h1.drew, h2⟩
theorem MapAt.drewN (h : MapAt w b n f) (d : Nat) : MapAt (w.drewN d) b n f := h
theorem MapAt.below {w' : World} {B : Nat} (h : MapAt w b n f) (hb : Below B w w') (hB : b < B) : MapAt w' b n f := by
  obtain ⟨D, ⟨es, clock, h1, r⟩, h2⟩ := h
  exact ⟨D, ⟨es, clock, (hb.block b hB).trans h1, r⟩, h2⟩

theorem MapAt.look (h : MapAt w b n f) {k : ByteArray} (hk : k.size ≤ maxLen) : (Instr.lookup 25 (.map (some b)) (.string k) true).run Try.prog w = .ok (.tuple #[.string (lastV (f k)), .bool (f k).isSome]) w := by
  obtain ⟨D, h1, h2⟩ := h
  obtain ⟨v, ps, hrun, hv⟩ := h1.look_ok law9 Try.underlying25 (zero9 w) (plainElem_string Try.underlying9 (by simp [ByteArray.size, maxLen])) (WideMaps.keyOf_string_mk Try.underlying9 hk)
  rw [hrun]
  obtain ⟨s, rfl, hs, _⟩ := plainElem_string_inv Try.underlying9 hv
  have hhas := h2.has k
  unfold keyLit at hhas
  rw [hhas]
  have e : s = lastV (f k) := by
    have hd := congrArg Prod.fst hs
    simp only at hd
    cases hf : f k with
    | none =>
      rw [hf] at hhas
      rw [Maps.atKey_of_not_has (by rw [hhas]; rfl)] at hd
      refine WideShapes.bytes_inj ?_
      simp at hd
      simp [lastV, hd]
    | some u =>
      have := h2.val k u hf (.lit (.string []))
      unfold keyLit valLit at this
      rw [this] at hd
      refine WideShapes.bytes_inj ?_
      simp at hd
      simp [lastV, hd]
  rw [e]

theorem MapAt.store (h : MapAt w b n f) (hn : n < maxLen) {k v : ByteArray} (hk : k.size ≤ maxLen) (hv : v.size ≤ maxLen) :
    ∃ w', (Instr.mapUpdate 25 (.map (some b)) (.string k) (.string v)).run Try.prog w = .ok () w' ∧ MapAt w' b (n + 1) (putF f k v) ∧ w.mapTurned w' b := by
  obtain ⟨D, h1, h2⟩ := h
  obtain ⟨w', hrun, r1, r2⟩ := h1.store law9 Try.underlying25 hn (WideMaps.keyOf_string_mk Try.underlying9 hk) (plainElem_string Try.underlying9 hv)
  exact ⟨w', hrun, ⟨_, r1, h2.put k v⟩, r2⟩

theorem MapAt.drop (h : MapAt w b n f) {k : ByteArray} (hk : k.size ≤ maxLen) (ty : TypeId) :
    ∃ w', (Builtin.delete_ #[25, 9] ty #[.map (some b), .string k]).run Try.prog w = .ok (.tuple #[]) w' ∧ MapAt w' b n (delF f k) ∧ w.mapTurned w' b := by
  obtain ⟨D, h1, h2⟩ := h
  obtain ⟨w', hrun, r1, r2⟩ := h1.drop law9 Try.underlying25 (WideMaps.keyOf_string_mk Try.underlying9 hk) ty
  exact ⟨w', hrun, ⟨_, r1, h2.del k⟩, r2⟩

/-- how many of the first i keys (each counted at its first place) are there -/
theorem MapAt.len (h : MapAt w b n f) (ty : TypeId) : ∃ D : DataW Unit, Reads D f ∧ (Builtin.len_ #[25] ty #[.map (some b)]).run Try.prog w = .ok (.int .i64 (Maps.size D)) w := by
  obtain ⟨D, h1, h2⟩ := h
  exact ⟨D, h2, h1.len Try.underlying25 ty⟩

section
variable {ops : Array Oper} {rest : List Oper} {o : Oper} {a : Act} {Q : Exit → Act → World → Prop}

theorem wpList_lookup_at (w : World) (hg : o.guard = none) (m x : Operand) (hop : o.op = Op.lookup 25 m x true) (b n : Nat) (f : ByteArray → Option ByteArray) (hm : a.eval m = .map (some b)) (h : MapAt w b n f) (k : ByteArray) (hx : a.eval x = .string k) (hk : k.size ≤ maxLen)
    (hK : wpList Try.prog ops Q rest (a.put o.dst (.tuple #[.string (lastV (f k)), .bool (f k).isSome])) w) : wpList Try.prog ops Q (o :: rest) a w := by
  refine wpList_plain hg fun K' hK' => ?_
  unfold Oper.wp
  simp [execOp, hop, hm, hx, h.look hk, Result.andThen]
  exact hK' _ _ hK

theorem wpList_store_at (w : World) (hg : o.guard = none) (m x v : Operand) (hop : o.op = Op.mapUpdate 25 m x v) (b n : Nat) (f : ByteArray → Option ByteArray) (hm : a.eval m = .map (some b)) (h : MapAt w b n f) (hn : n < maxLen) (k u : ByteArray) (hx : a.eval x = .string k) (hv : a.eval v = .string u) (hk : k.size ≤ maxLen) (hu : u.size ≤ maxLen)
    (hK : ∀ w', MapAt w' b (n + 1) (putF f k u) → w.mapTurned w' b → wpList Try.prog ops Q rest (a.put o.dst undef) w') : wpList Try.prog ops Q (o :: rest) a w := by
  refine wpList_plain hg fun K' hK' => ?_
  obtain ⟨w', hrun, r1, r2⟩ := h.store hn hk hu
  unfold Oper.wp
  simp [execOp, hop, hm, hx, hv, hrun, Result.andThen]
  exact hK' _ _ (hK w' r1 r2)

theorem wpList_delete_at (w : World) (hg : o.guard = none) (m x : Operand) (hop : o.op = Op.call { callee := Callee.builtin Builtin.delete, args := #[m, x], argTypes := #[25, 9] }) (b n : Nat) (f : ByteArray → Option ByteArray) (hm : a.eval m = .map (some b)) (h : MapAt w b n f) (k : ByteArray) (hx : a.eval x = .string k) (hk : k.size ≤ maxLen)
    (hK : ∀ w', MapAt w' b n (delF f k) → w.mapTurned w' b → wpList Try.prog ops Q rest (a.put o.dst (.tuple #[])) w') : wpList Try.prog ops Q (o :: rest) a w := by
  refine wpList_plain hg fun K' hK' => ?_
  obtain ⟨w', hrun, r1, r2⟩ := h.drop hk o.type
  unfold Oper.wp
  simp [execOp, hop, resolve, invoke, builtin, hm, hx, hrun, Result.andThen]
  exact hK' _ _ (hK w' r1 r2)

theorem wpList_len_at (w : World) (hg : o.guard = none) (m : Operand) (hop : o.op = Op.call { callee := Callee.builtin Builtin.len, args := #[m], argTypes := #[25] }) (b n : Nat) (f : ByteArray → Option ByteArray) (hm : a.eval m = .map (some b)) (h : MapAt w b n f)
    (hK : ∀ D : DataW Unit, Reads D f → wpList Try.prog ops Q rest (a.put o.dst (.int .i64 (Maps.size D))) w) : wpList Try.prog ops Q (o :: rest) a w := by
  refine wpList_plain hg fun K' hK' => ?_
  obtain ⟨D, hD, hrun⟩ := h.len o.type
  unfold Oper.wp
  simp [execOp, hop, resolve, invoke, builtin, hm, hrun, Result.andThen]
  exact hK' _ _ (hK D hD)

/-- a range over such a map, under way: the map is in block b, the iterator in block r; 'left x': is the entry at x still to come -/
def RangeAt (w : World) (b r n : Nat) (f : ByteArray → Option ByteArray) (left : ByteArray → Bool) (cnt : Nat) : Prop :=
  ∃ (D : DataW Unit) (l : Lit → Bool), w.ranges Try.prog 9 (plainElem Try.prog 9) b r n D l cnt ∧ Reads D f ∧ ∀ x, left x = l (keyLit x)

theorem RangeAt.kept {w w' : World} {b r n : Nat} {f : ByteArray → Option ByteArray} {left : ByteArray → Bool} {cnt : Nat} {row : Option Nat} (h : RangeAt w b r n f left cnt) (hg : w.grownBy w' row) (hb : some b ≠ row) (hr : some r ≠ row) : RangeAt w' b r n f left cnt :=
  let ⟨D, l, h1, h2, h3⟩ := h; ⟨D, l, h1.kept hg hb hr, h2, h3⟩
theorem RangeAt.owns {w : World} {b r n : Nat} {f : ByteArray → Option ByteArray} {left : ByteArray → Bool} {cnt : Nat} (h : RangeAt w b r n f left cnt) : MapAt w b n f := let ⟨D, _, h1, h2, _⟩ := h; ⟨D, h1.owns, h2⟩
theorem RangeAt.left_eq {w : World} {b r n : Nat} {f : ByteArray → Option ByteArray} {left : ByteArray → Bool} {cnt : Nat} (h : RangeAt w b r n f left cnt) : w.rangeLeft b r = cnt := let ⟨_, _, h1, _, _⟩ := h; h1.left_eq

theorem wpList_range_at (w : World) (hg : o.guard = none) (m : Operand) (hop : o.op = Op.range 25 m) (b n : Nat) (f : ByteArray → Option ByteArray) (hm : a.eval m = .map (some b)) (h : MapAt w b n f)
    (hK : ∀ w' cnt, cnt ≤ n → RangeAt w' b w.heap.size n f (fun x => (f x).isSome) cnt → w.grownBy w' none → w'.heap.size = w.heap.size + 1 → wpList Try.prog ops Q rest (a.put o.dst (.pointer (some ⟨w.heap.size, 0, none⟩))) w') :
    wpList Try.prog ops Q (o :: rest) a w := by
  obtain ⟨D, h1, h2⟩ := h
  exact wpList_range_own w hg m 25 hop 9 9 law9 Try.underlying25 _ b n D hm h1 (fun w' hr hg' hs => hK w' _ h1.size_le ⟨D, _, hr, h2, fun x => (h2.has x).symm⟩ hg' hs)

theorem keyOf_string_both {P : Program} {k : TypeId} (hk : P.underlying k = some .string) {key : Value} {kl : Lit} (h : keyOf P k key = some kl) : ∃ x : ByteArray, key = .string x ∧ kl = keyLit x ∧ x.size ≤ maxLen := by
  cases key <;> simp [keyOf, hk, mapKey] at h
  obtain ⟨h1, rfl⟩ := h
  exact ⟨_, rfl, rfl, by first | exact h1 | omega⟩

theorem wpList_next_at (w : World) (hg : o.guard = none) (it : Operand) (hop : o.op = Op.next it false) (b r n : Nat) (f : ByteArray → Option ByteArray) (left : ByteArray → Bool) (cnt : Nat) (hit : a.eval it = .pointer (some ⟨r, 0, none⟩)) (h : RangeAt w b r n f left cnt)
    (hDone : (∀ x, left x = false) → wpList Try.prog ops Q rest (a.put o.dst (.tuple #[.bool false])) w)
    (hMore : ∀ (x c : ByteArray) (w' : World) (cnt' : Nat), x.size ≤ maxLen → c.size ≤ maxLen → left x = true → f x = some c → RangeAt w' b r n f (fun z => left z && !decide (z = x)) cnt' → cnt' < cnt → w.grownBy w' (some r) → w'.heap.size = w.heap.size →
      (Instr.entry (.pointer (some ⟨r, 0, none⟩))).run Try.prog w' = .ok (.tuple #[.string x, .string c]) w' → wpList Try.prog ops Q rest (a.put o.dst (.tuple #[.bool true, .string x, .string c])) w') :
    wpList Try.prog ops Q (o :: rest) a w := by
  obtain ⟨D, l, h1, h2, h3⟩ := h
  refine wpList_next_ranges w hg it hop 9 law9 (plainElem Try.prog 9) Value.string Value.string (fun key kl hkey => by obtain ⟨x, rfl, _⟩ := keyOf_string_both Try.underlying9 hkey; exact ⟨x, rfl⟩) (fun v y hv => by obtain ⟨c, rfl, _⟩ := plainElem_string_inv Try.underlying9 hv; exact ⟨c, rfl⟩)
    b r n D l cnt hit h1 (fun _ hl => hDone (fun x => by rw [h3]; exact hl _)) (fun x c kl y w' cnt' hkey hlk hv hat hrg hlt hgr hsz hen => ?_)
  obtain ⟨x', ex, rfl, hwx⟩ := keyOf_string_both Try.underlying9 hkey
  cases ex
  obtain ⟨c', ec, rfl, hwc⟩ := plainElem_string_inv Try.underlying9 hv
  cases ec
  refine hMore x c w' cnt' hwx hwc (by rw [h3]; exact hlk) ?_ ⟨D, _, hrg, h2, fun z => ?_⟩ hlt hgr hsz hen
  · have hh := h2.has x
    rw [Maps.has_true_of_atKey hat] at hh
    cases hf : f x with
    | none => rw [hf] at hh; cases hh
    | some u =>
      have e1 := (h2.val x u hf .nil).symm.trans (hat .nil)
      have : u = c := WideShapes.bytes_inj (by simpa [valLit] using e1)
      rw [this]
  · show (left z && !decide (z = x)) = (l (keyLit z) && !(keyLit z).sameKey (keyLit x))
    rw [h3]
    by_cases e : z = x
    · subst e
      rw [WideAt.sameKey_self (keyLit_key z)]
      simp
    · rw [Maps.sameKey_ne (fun e' => e (keyLit_inj e'))]
      simp [e]

end

end Go.Proofs.Qxb6630350a
