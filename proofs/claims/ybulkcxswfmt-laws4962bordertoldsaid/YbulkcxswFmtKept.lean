import Derived.Test.YbulkcxswFmtMaps
namespace Go.Proofs.YbulkcxswFmt
open Go Go.RowKit Go.Deep

/-- Of the blocks that were there those of S alone may have turned. -/
structure Kept (S : List Nat) (w w' : World) : Prop where
  os : w'.os = w.os
  tape : w'.tape = w.tape
  output : w'.output = w.output
  size : w.heap.size ≤ w'.heap.size
  block : ∀ k, k < w.heap.size → k ∉ S → w'.heap[k]? = w.heap[k]?

theorem Kept.refl (S : List Nat) (w : World) : Kept S w w := ⟨rfl, rfl, rfl, Nat.le_refl _, fun _ _ _ => rfl⟩

theorem Kept.trans {S S1 S2 : List Nat} {a b c : World} (h : Kept S1 a b) (k : Kept S2 b c) (h1 : ∀ x ∈ S1, x ∈ S) (h2 : ∀ x ∈ S2, x < a.heap.size → x ∈ S) : Kept S a c :=
  ⟨k.os.trans h.os, k.tape.trans h.tape, k.output.trans h.output, Nat.le_trans h.size k.size,
    fun i hi hS => (k.block i (Nat.lt_of_lt_of_le hi h.size) (fun e => hS (h2 i e hi))).trans (h.block i hi (fun e => hS (h1 i e)))⟩

theorem Kept.then {S : List Nat} {a b c : World} (h : Kept S a b) (k : Kept S b c) : Kept S a c := h.trans k (fun _ h => h) (fun _ h _ => h)

theorem Kept.mono {S S' : List Nat} {a b : World} (h : Kept S a b) (hs : ∀ x ∈ S, x < a.heap.size → x ∈ S') : Kept S' a b :=
  ⟨h.os, h.tape, h.output, h.size, fun k hk hS => h.block k hk (fun e => hS (hs k e hk))⟩

theorem Kept.alloc {S : List Nat} {a w : World} (h : Kept S a w) (o : Obj) : Kept S a (w.alloc o) :=
  ⟨h.os, h.tape, h.output, by have := h.size; simp; omega, fun k hk hS => (Below.heap_alloc _ _ _ (Nat.lt_of_lt_of_le hk h.size)).trans (h.block k hk hS)⟩

theorem Kept.drew {S : List Nat} {a w : World} (h : Kept S a w) : Kept S a w.drew := ⟨h.os, h.tape, h.output, h.size, h.block⟩
theorem Kept.drewN {S : List Nat} {a w : World} (h : Kept S a w) (n : Nat) : Kept S a (w.drewN n) := ⟨h.os, h.tape, h.output, h.size, h.block⟩

theorem Kept.setCell {S : List Nat} {a w : World} (h : Kept S a w) {p : Addr} (hp : p.block < a.heap.size → p.block ∈ S) (u : Value) : Kept S a (w.setCell p u) :=
  ⟨h.os, h.tape, h.output, by simpa using h.size, fun k hk hS => (Below.heap_setCell w p u k (fun e => hS (e ▸ hp (e ▸ hk)))).trans (h.block k hk hS)⟩

theorem Kept.grown {S : List Nat} {a w w' : World} {row : Option Nat} (h : Kept S a w) (hg : w.grownBy w' row) (hr : ∀ k, row = some k → k < a.heap.size → k ∈ S) : Kept S a w' :=
  ⟨hg.os.trans h.os, hg.tape.trans h.tape, hg.output.trans h.output, Nat.le_trans h.size hg.size,
    fun k hk hS => (hg.block k (Nat.lt_of_lt_of_le hk h.size) (fun e => hS (hr k e.symm hk))).trans (h.block k hk hS)⟩

theorem Kept.below {S : List Nat} {a w : World} (h : Kept S a w) {B : Nat} (hB : B ≤ a.heap.size) (hS : ∀ x ∈ S, B ≤ x) : Below B a w :=
  ⟨h.os, h.tape, h.output, h.size, fun k hk => h.block k (Nat.lt_of_lt_of_le hk hB) (fun e => by have := hS k e; omega)⟩

theorem Below.kept {w w' : World} (h : Below w.heap.size w w') (S : List Nat) : Kept S w w' := ⟨h.os, h.tape, h.output, h.size, fun k hk _ => h.block k hk⟩

theorem Kept.cell {S : List Nat} {a w : World} (h : Kept S a w) {p : Addr} (hp : p.block < a.heap.size) (hS : p.block ∉ S) : w.cell? p = a.cell? p := World.cell?_of_block (w := a) (h.block p.block hp hS)
theorem Kept.frozen {S : List Nat} {a w : World} (h : Kept S a w) {p : Addr} (hp : p.block < a.heap.size) (hS : p.block ∉ S) : w.frozen? p = a.frozen? p := World.frozen?_of_block (w := a) (h.block p.block hp hS)
theorem Kept.blk {S : List Nat} {a w : World} (h : Kept S a w) {k : Nat} {o : Obj} (hk : a.heap[k]? = some o) (hS : k ∉ S) : w.heap[k]? = some o := (h.block k (lt_of_block hk) hS).trans hk

/-- What is owned stays owned where its block is not among those that may have turned. -/
theorem Kept.owns {S : List Nat} {a w : World} (h : Kept S a w) {base : Nat} {e : TypeId} {size : Nat} {v : Value} {n : Nat} {xs : List Value} (ho : a.ownsRow base e size v n xs) (hS : ∀ k, v.ownBlock = some k → k ∉ S) : w.ownsRow base e size v n xs := by
  refine ⟨ho.1, ?_⟩
  rcases ho.2 with hn | ⟨g, cap, cur, rfl, hb, hgg, rest⟩
  · exact .inl hn
  · exact .inr ⟨g, cap, cur, rfl, hb, h.blk hgg (hS g rfl), rest⟩


theorem Kept.putObj {S : List Nat} {a w : World} (h : Kept S a w) {b : Nat} (hb : b < a.heap.size → b ∈ S) (o : Obj) : Kept S a (World.putObj w b o) :=
  ⟨h.os, h.tape, h.output, by rw [putObj_size]; exact h.size, fun k hk hS => (putObj_other (w := w) (b := b) (x := k) (o := o) (fun e => hS (by subst e; exact hb hk))).trans (h.block k hk hS)⟩
theorem Kept.row {S : List Nat} {a w : World} (h : Kept S a w) {b : Nat} {t : TypeId} {n : Nat} {f : Nat → Value} (hr : a.rowIs b t n f) (hS : b ∉ S) : w.rowIs b t n f := hr.of_block (h.block b hr.lt hS)
theorem Kept.strMap {S : List Nat} {a w : World} (h : Kept S a w) {b : Nat} {L : SM} (hr : StrMap a b L) (hS : b ∉ S) : StrMap w b L := hr.of_block (h.block b hr.lt hS)
end Go.Proofs.YbulkcxswFmt
