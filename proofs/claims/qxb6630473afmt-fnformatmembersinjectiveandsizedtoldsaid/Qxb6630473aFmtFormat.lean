/-
  FormatMembers, fmt's text told.
-/
import Derived.Test.Qxb6630473aFmtBuild
import Derived.Test.Qxb6630473aFmtShelf
namespace Go.Proofs.Qxb6630473aFmt
open Go.RowKit Go.Extern.Stop Go.Stop Go.Extern Go.Kit

/-- entry i -/
def ent (I : Nat → Nat) (S : Nat → ByteArray) (i : Nat) : ByteArray := ⟨(entry (I i) (S i).data.toList).toArray⟩

/-- the spec of the first n members -/
def specOf (I : Nat → Nat) (S : Nat → ByteArray) (n : Nat) : ByteArray := ⟨(Lib.join (((List.range n).map (ent I S)).map (·.data.toList)) [44]).toArray⟩

/-- the row of entries behind k rounds -/
def entTo (I : Nat → Nat) (S : Nat → ByteArray) (k j : Nat) : Value := if j < k then .string (ent I S j) else .string ⟨#[]⟩

theorem made_str (n j : Nat) (h : j < n * 1) : (madeCells (Value.string ⟨#[]⟩).cells (n * 1)).toList.getD j undef = .string ⟨#[]⟩ := by
  rw [List.getD_eq_getElem?_getD, Array.getElem?_toList]
  have e1 : (Array.range (n * 1))[j]? = some j := by rw [Array.getElem?_range, if_pos h]
  simp only [madeCells, Array.getElem?_map, e1, Option.map_some, Option.getD_some]
  show (#[Value.string ⟨#[]⟩] : Array Value)[j % 1]! = _
  simp [Nat.mod_one]

theorem entTo_step (I : Nat → Nat) (S : Nat → ByteArray) (k j : Nat) : (if j = k then Value.string (ent I S k) else entTo I S k j) = entTo I S (k + 1) j := by
  unfold entTo
  by_cases e : j = k
  · subst e; simp
  · by_cases h : j < k
    · have h' : j < k + 1 := by omega
      simp [e, h, h']
    · have h' : ¬ j < k + 1 := by omega
      simp [e, h, h']

theorem text_nat (F : Interp) (id : Nat) (s : ByteArray) (hs : s.size ≤ 2000000) (hid : id < 18446744073709551616) :
    FmtStop.textOf (F.told "fmt.Sprintf" [[37, 100, 61, 37, 115], shape30, digits 8 (id % 18446744073709551616), shape9, FmtStop.pack s.data.toList] 0) = ⟨(entry id s.data.toList).toArray⟩ := by
  have := t_text_of F id s hs hid
  rw [asked, show ((id : Int) % 18446744073709551616).toNat = id % 18446744073709551616 by omega] at this
  exact this

theorem entry_len {id : Nat} {s : List UInt8} (hid : id < 18446744073709551616) : (entry id s).length ≤ s.length + 22 := by
  have hw : (Lit.int .u64 (id : Int)).wf = true := WalkArith.wf_u64 (by omega)
  have hd := FmtText.itoa_length_le hw
  rw [Lib.itoa, if_neg (by omega), Int.toNat_natCast] at hd
  simp only [entry, List.length_append, List.length_cons]
  omega

theorem join_le_aux (sep : List UInt8) (M : Nat) : ∀ (xs : List (List UInt8)), (∀ x ∈ xs, x.length ≤ M) → (Lib.join xs sep).length ≤ xs.length * (M + sep.length)
  | [], _ => by simp [Lib.join]
  | [x], h => by
    have := h x (by simp)
    simp [Lib.join]
    omega
  | x :: y :: r, h => by
    have h1 := h x (by simp)
    have h2 := join_le_aux sep M (y :: r) (fun z hz => h z (by simp [List.mem_cons.1 hz]))
    have e : Lib.join (x :: y :: r) sep = x ++ (sep ++ Lib.join (y :: r) sep) := by
      simp [Lib.join, List.intercalate, List.intersperse]
    rw [e, List.length_append, List.length_append]
    simp only [List.length_cons] at h2 ⊢
    rw [Nat.add_mul (r.length + 1) 1]
    omega

theorem join_le (I : Nat → Nat) (S : Nat → ByteArray) (n : Nat) (hS : ∀ i, i < n → (S i).size ≤ 1048576) (hI : ∀ i, i < n → I i < 18446744073709551616) : (Lib.join (((List.range n).map (ent I S)).map (·.data.toList)) [44]).length ≤ n * 1048600 := by
  have := join_le_aux [44] 1048598 (((List.range n).map (ent I S)).map (·.data.toList)) (fun x hx => by
    simp only [List.map_map, List.mem_map, List.mem_range, Function.comp] at hx
    obtain ⟨i, hi, rfl⟩ := hx
    have h1 := entry_len (s := (S i).data.toList) (hI i hi)
    have h2 := hS i hi
    have h3 : (S i).data.toList.length = (S i).size := by rw [Array.length_toList]; rfl
    show (entry (I i) (S i).data.toList).toArray.toList.length ≤ 1048598
    rw [List.toList_toArray]
    omega)
  rw [List.length_map, List.length_map, List.length_range] at this
  exact Nat.le_trans this (Nat.mul_le_mul_left n (by decide))

set_option maxHeartbeats 1000000 in
set_option maxRecDepth 100000 in
theorem format_any (F : Interp) (a : Option Addr) (n cap : Nat) (I : Nat → Nat) (S : Nat → ByteArray) (w : World) (hF : F.told.answers w.tape) (h : MemAt w a n I S) (hI : ∀ i, i < n → I i < 18446744073709551616) (hS : ∀ i, i < n → (S i).size ≤ 1048576) (hmax : n ≤ 65536) :
    Calls Tryf.prog 8 #[.slice a n cap] w fun e w' => e = .returned (.string (specOf I S n)) ∧ Below w.heap.size w w' := by
  have hlt0 := h.lt
  obtain ⟨b, off, hc⟩ := h
  obtain ⟨i0, hi, hz0, hz1, hz2⟩ := info_parts info9
  go_enter Tryf.func8, Tryf.ntmps8
  go_wp2_with (at_make; refine wpList_make_full _ rfl _ _ 23 rfl w.heap.size 9 i0 (.string ⟨#[]⟩) 1 Tryf.underlying23 hi hz0 hz1 _ _ _ _ n rfl rfl rfl rfl (by rw [hz2]; omega) (by unfold maxLen; omega) (Nat.le_refl _) ?_; intro w0 hown0 hgrow0)
  have hrow0 := rowIs_of_owns hown0
  go_loopw [11] (fun i wr => ∃ k : Nat, k ≤ n ∧ i = .int .i64 k ∧ wr.rowIs w.heap.size 9 (n * 1) (entTo I S k) ∧ Below w.heap.size w wr) (fun i _ => n - (intOf i).toNat)
  case atStart => exact ⟨0, Nat.zero_le _, rfl, hrow0.congr (fun j hj => by rw [made_str n j hj]; simp [entTo]), (Below.refl _ _).grown hgrow0 (Nat.le_refl _) (fun k h => by cases h)⟩
  case round =>
    obtain ⟨k, hk, rfl, hrow, hbel⟩ := hrel
    by_cases hlt : k < n
    · obtain ⟨ha, hK1, hK2⟩ := hc k hlt
      have hblk : b < w.heap.size := hlt0 _ ha (by omega)
      have hK1' : wr.cell? ⟨b, off + k * 2, none⟩ = some (.int .u64 (I k : Int)) := (hbel.cell (p := ⟨b, _, none⟩) hblk).trans hK1
      have hK2' : wr.cell? ⟨b, off + k * 2 + 1, none⟩ = some (.string (S k)) := (hbel.cell (p := ⟨b, _, none⟩) hblk).trans hK2
      have hix := fun w => indexAt_two (P := Tryf.prog) (cap := cap) (b := b) (off := off) 26 Tryf.underlying26 size35 k hlt ha w
      have hFr := answers_open (show F.told.answers wr.tape by rw [hbel.tape]; exact hF)
      have hcA : wr.cell? ⟨w.heap.size, k, none⟩ = some _ := hrow.cell (i := k) (by omega)
      have hfA := hrow.frozen k
      have hsz := hrow.lt
      have f1 := call13
      have f2 := guardOk
      have f3 := printedOk
      have f4 := printedRun
      have f5 := op30
      have f6 := op9
      clear ha hc hK1 hK2
      go_wp2
      go_roundw
      case rel =>
        refine ⟨k + 1, by omega, by go_num, ?_, ?_⟩
        · rw [text_nat F (I k) (S k) (by have := hS k hlt; omega) (hI k hlt)]
          exact ((((hrow.set k _).alloc _).alloc _).drew).congr (fun j _ => entTo_step I S k j)
        · exact (((hbel.setCell (Nat.le_refl _) _).alloc (by simp [World.setCell]; exact hbel.size) _).alloc (by simp [World.setCell]; have := hbel.size; omega) _).drew
      case measure => simp [intOf]; omega
    · obtain rfl : k = n := by omega
      have hl : ((List.range k).map (ent I S)).length = k := by simp
      have J := Tryf.strings_Join w.heap.size 0 k ((List.range k).map (ent I S)) ⟨#[44]⟩ wr (fun j x hx => by
        have hj : j < k := by
          have := (List.getElem?_eq_some_iff.1 hx).1
          rwa [hl] at this
        have e : x = ent I S j := by
          rw [List.getElem?_map, List.getElem?_range hj] at hx
          simpa using hx.symm
        rw [Nat.zero_add, hrow.cell (i := j) (by omega), e]
        simp [entTo, hj]) hrow.lt (by omega) (by omega) (by
          have := join_le I S k hS hI
          exact Nat.le_trans this (by omega))
      rw [hl] at J
      have J' : Calls Tryf.prog 14 #[.slice (some ⟨w.heap.size, 0, none⟩) k k, .string ⟨#[44]⟩] wr fun e w' => e = .returned (.string (specOf I S k)) ∧ Below wr.heap.size wr w' := J
      clear J
      go_wp2_with fail
      refine J'.mono ?_
      rintro e w' ⟨rfl, hb'⟩
      go_wp2
      go_ret
      exact ⟨rfl, hbel.trans (hb'.mono hbel.size)⟩

end Go.Proofs.Qxb6630473aFmt
