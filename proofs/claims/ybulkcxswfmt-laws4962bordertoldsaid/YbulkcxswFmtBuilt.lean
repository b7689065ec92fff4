import Derived.Test.YbulkcxswFmtNeed
import Derived.Test.YbulkcxswFmtApp
import Derived.Deep.CutRange
namespace Go.Proofs.YbulkcxswFmt
open Go Go.RowKit Go.Deep

/-! ### A slice that reads as a list, in a block outside S -/
def IsRow (w : World) (S : List Nat) (v : Value) (l : List Nat) (en : Nat → Value) : Prop :=
  ∃ ao cap, v = .slice ao l.length cap ∧ (l ≠ [] → ∃ b off, ao = some ⟨b, off, none⟩ ∧ b < w.heap.size ∧ b ∉ S ∧ ∀ j, j < l.length → w.cell? ⟨b, off + j, none⟩ = some (en (l.getD j 0)))
def enS (x : Nat) : Value := .string (nm x)
def enI (x : Nat) : Value := .int .i64 x
theorem IsRow.names {w : World} {S : List Nat} {v : Value} {l : List Nat} (h : IsRow w S v l enS) : IsNames w v l := by
  obtain ⟨ao, cap, hv, hc⟩ := h
  refine ⟨ao, cap, hv, fun hne => ?_⟩
  obtain ⟨b, off, ha, hlt, _, hcs⟩ := hc hne
  exact ⟨b, off, ha, hlt, hcs⟩
theorem IsRow.kept {w w' : World} {S T : List Nat} {v : Value} {l : List Nat} {en : Nat → Value} (h : IsRow w S v l en) (k : Kept T w w') (hT : ∀ x ∈ T, x ∈ S ∨ w.heap.size ≤ x) : IsRow w' S v l en := by
  obtain ⟨ao, cap, hv, hc⟩ := h
  refine ⟨ao, cap, hv, fun hne => ?_⟩
  obtain ⟨b, off, ha, hlt, hS, hcs⟩ := hc hne
  refine ⟨b, off, ha, Nat.lt_of_lt_of_le hlt k.size, hS, fun j hj => (k.cell hlt (fun hm => ?_)).trans (hcs j hj)⟩
  rcases hT b hm with h1 | h1
  · exact hS h1
  · omega
theorem IsRow.sub {w : World} {S T : List Nat} {v : Value} {l : List Nat} {en : Nat → Value} (h : IsRow w S v l en) (hT : ∀ x ∈ T, x < w.heap.size → x ∈ S) : IsRow w T v l en := by
  obtain ⟨ao, cap, hv, hc⟩ := h
  refine ⟨ao, cap, hv, fun hne => ?_⟩
  obtain ⟨b, off, ha, hlt, hS, hcs⟩ := hc hne
  exact ⟨b, off, ha, hlt, fun hm => hS (hT b hm hlt), hcs⟩
theorem IsRow.of_owns {w : World} {S : List Nat} {base e : Nat} {v : Value} {l : List Nat} {en : Nat → Value} (h : w.ownsRow base e 1 v l.length (l.map en)) (hS : ∀ x ∈ S, x < base) : IsRow w S v l en := by
  rcases h.2 with ⟨rfl, h0⟩ | ⟨g, cap, cur, rfl, hb, hg, _⟩
  · refine ⟨none, 0, by rw [h0], fun hne => absurd (List.eq_nil_of_length_eq_zero h0) hne⟩
  · refine ⟨_, cap, rfl, fun _ => ⟨g, 0, rfl, (Array.getElem?_eq_some_iff.1 hg).1, fun hm => by have := hS g hm; omega, fun j hj => ?_⟩⟩
    have := h.cells (g := g) rfl j (en (l.getD j 0)) (by simp [List.getElem?_eq_getElem hj])
    rwa [Addr.add_lit] at this
theorem IsRow.of_row {w : World} {S : List Nat} {b t cap : Nat} {l : List Nat} {en f : Nat → Value} (h : w.rowIs b t cap f) (hl : l.length ≤ cap) (hS : b ∉ S) (he : ∀ j, j < l.length → f j = en (l.getD j 0)) (c : Nat) : IsRow w S (.slice (some ⟨b, 0, none⟩) l.length c) l en :=
  ⟨_, c, rfl, fun _ => ⟨b, 0, rfl, h.lt, hS, fun j hj => by rw [Nat.zero_add, h.cell (by omega), he j hj]⟩⟩

/-! ### What the law lays ahead of the order -/
def depsOf (n : Nat) (ln : Nat → Nat) (wt : Nat → Nat → Nat) (i : Nat) : List Nat := (List.range (ln i)).map fun j => wt i j % (n + 3)
theorem depsOf_len (n : Nat) (ln : Nat → Nat) (wt : Nat → Nat → Nat) (i : Nat) : (depsOf n ln wt i).length = ln i := by simp [depsOf]
theorem depsOf_get {n : Nat} {ln : Nat → Nat} {wt : Nat → Nat → Nat} {i j : Nat} (h : j < ln i) : (depsOf n ln wt i).getD j 0 = wt i j % (n + 3) := by simp [depsOf, h]
theorem depsOf_lt {n : Nat} {ln : Nat → Nat} {wt : Nat → Nat → Nat} {i : Nat} : ∀ d ∈ depsOf n ln wt i, d < n + 3 := fun d hd => by
  obtain ⟨j, _, rfl⟩ := List.mem_map.1 hd
  exact Nat.mod_lt _ (by omega)
def f4 (a b c d : Value) : Nat → Value
  | 0 => a
  | 1 => b
  | 2 => c
  | _ => d
def tmplF (mr : Nat) (o : Value) : Nat → Value := f4 (.map none) (.map (some mr)) o (.slice none 0 0)
def resV (cu : Nat → Bool) (ty po : Nat → ByteArray) (ws : Nat → Value) (x : Nat) : Value := .agg #[.string (ty x), .bool (cu x), .string (po x), .nilIface, .slice none 0 0, ws x]
theorem rowIs_of4 {w : World} {b t : Nat} {x0 x1 x2 x3 : Value} (h : w.heap[b]? = some (.cells #[x0, x1, x2, x3] t)) : w.rowIs b t 4 (f4 x0 x1 x2 x3) :=
  ⟨_, h, rfl, fun i hi => by
    match i, hi with
    | 0, _ => rfl
    | 1, _ => rfl
    | 2, _ => rfl
    | 3, _ => rfl⟩
structure Built (w wr : World) (H n k : Nat) (deps : Nat → List Nat) (cu : Nat → Bool) (ty po : Nat → ByteArray) (dv ws : Nat → Value) : Prop where
  row : wr.rowIs H 35 n (fun x => if x < k then dv x else .slice none 0 0)
  map : StrMap wr (H + 1) (named (List.range k) (resV cu ty po ws))
  tmpl : wr.rowIs (H + 2) 33 4 (tmplF (H + 1) (.slice none 0 0))
  ints : ∀ x, x < k → IsRow wr [H, H + 1, H + 2] (dv x) (deps x) enI
  names : ∀ x, x < k → IsRow wr [H, H + 1, H + 2] (ws x) (deps x) enS
  old : Below w.heap.size w wr
  le : w.heap.size ≤ H
  size : H + 3 ≤ wr.heap.size
theorem Built.start {w wr : World} {n : Nat} (deps : Nat → List Nat) (cu : Nat → Bool) (ty po : Nat → ByteArray) (dv ws : Nat → Value) (hb : Below w.heap.size w wr) :
    Built w (((wr.alloc (.cells (madeCells #[.slice none 0 0] n) 35)).alloc (.map #[] 0)).alloc (.cells #[.map none, .map (some (wr.heap.size + 1)), .slice none 0 0, .slice none 0 0] 33)) wr.heap.size n 0 deps cu ty po dv ws where
  row := (((World.rowIs_made wr (.slice none 0 0) n 35).alloc _).alloc _).congr (fun i hi => by simp)
  map := by
    have := strMap_made (wr.alloc (.cells (madeCells #[.slice none 0 0] n) 35))
    rw [show (wr.alloc (.cells (madeCells #[.slice none 0 0] n) 35)).heap.size = wr.heap.size + 1 from Array.size_push _] at this
    exact this.alloc _
  tmpl := by
    have := heap_alloc_new ((wr.alloc (.cells (madeCells #[.slice none 0 0] n) 35)).alloc (.map #[] 0)) (.cells #[.map none, .map (some (wr.heap.size + 1)), .slice none 0 0, .slice none 0 0] 33)
    rw [show ((wr.alloc (.cells (madeCells #[.slice none 0 0] n) 35)).alloc (.map #[] 0)).heap.size = wr.heap.size + 2 from by simp] at this
    exact rowIs_of4 this
  ints := fun x hx => absurd hx (by omega)
  names := fun x hx => absurd hx (by omega)
  old := ((hb.alloc hb.size _).alloc (by have := hb.size; simp; omega) _).alloc (by have := hb.size; simp; omega) _
  le := hb.size
  size := by simp
end Go.Proofs.YbulkcxswFmt
