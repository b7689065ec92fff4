import Derived.WalkKit
import Derived.WalkSpells
import Derived.WalkLawsBesides
import Derived.Laws.CopyOwn
namespace Go.Proofs.YbulkcxpqFmt
open Go Go.RowKit

/-- Of the blocks that were there those of S alone may have turned. -/
structure Kept (S : List Nat) (w w' : World) : Prop where
  os : w'.os = w.os
  tape : w'.tape = w.tape
  output : w'.output = w.output
  size : w.heap.size ≤ w'.heap.size
  block : ∀ k, k < w.heap.size → k ∉ S → w'.heap[k]? = w.heap[k]?

theorem Kept.refl (S : List Nat) (w : World) : Kept S w w := ⟨rfl, rfl, rfl, Nat.le_refl _, fun _ _ _ => rfl⟩

theorem Kept.trans {S S1 S2 : List Nat} {a b c : World} (h : Kept S1 a b) (k : Kept S2 b c) (h1 : ∀ x ∈ S1, x ∈ S) (h2 : ∀ x ∈ S2, x < a.heap.size → x ∈ S) : Kept S a c :=
  ⟨k.os.trans h.os, k.tape.trans h.tape, k.output.trans h.output, Nat.le_trans h.size k.size,
    fun i hi hS => (k.block i (Nat.lt_of_lt_of_le hi h.size) (fun e => hS (h2 i e hi))).trans (h.block i hi (fun e => hS (h1 i e)))⟩

theorem Kept.then {S : List Nat} {a b c : World} (h : Kept S a b) (k : Kept S b c) : Kept S a c := h.trans k (fun _ h => h) (fun _ h _ => h)

theorem Kept.mono {S S' : List Nat} {a b : World} (h : Kept S a b) (hs : ∀ x ∈ S, x < a.heap.size → x ∈ S') : Kept S' a b :=
  ⟨h.os, h.tape, h.output, h.size, fun k hk hS => h.block k hk (fun e => hS (hs k e hk))⟩

theorem Kept.alloc {S : List Nat} {a w : World} (h : Kept S a w) (o : Obj) : Kept S a (w.alloc o) :=
  ⟨h.os, h.tape, h.output, by have := h.size; simp; omega, fun k hk hS => (Below.heap_alloc _ _ _ (Nat.lt_of_lt_of_le hk h.size)).trans (h.block k hk hS)⟩

theorem Kept.drew {S : List Nat} {a w : World} (h : Kept S a w) : Kept S a w.drew := ⟨h.os, h.tape, h.output, h.size, h.block⟩
theorem Kept.drewN {S : List Nat} {a w : World} (h : Kept S a w) (n : Nat) : Kept S a (w.drewN n) := ⟨h.os, h.tape, h.output, h.size, h.block⟩

theorem Kept.setCell {S : List Nat} {a w : World} (h : Kept S a w) {p : Addr} (hp : p.block < a.heap.size → p.block ∈ S) (u : Value) : Kept S a (w.setCell p u) :=
  ⟨h.os, h.tape, h.output, by simpa using h.size, fun k hk hS => (Below.heap_setCell w p u k (fun e => hS (e ▸ hp (e ▸ hk)))).trans (h.block k hk hS)⟩

theorem Kept.setRow {S : List Nat} {a w : World} (h : Kept S a w) {g : Nat} (hp : g < a.heap.size → g ∈ S) (cs : Array Value) : Kept S a (w.setRow g cs) :=
  ⟨h.os, h.tape, h.output, by simpa [World.setRow] using h.size, fun k hk hS => (setRow_other w g k cs (fun e => hS (e ▸ hp (e ▸ hk)))).trans (h.block k hk hS)⟩

theorem Kept.grown {S : List Nat} {a w w' : World} {row : Option Nat} (h : Kept S a w) (hg : w.grownBy w' row) (hr : ∀ k, row = some k → k < a.heap.size → k ∈ S) : Kept S a w' :=
  ⟨hg.os.trans h.os, hg.tape.trans h.tape, hg.output.trans h.output, Nat.le_trans h.size hg.size,
    fun k hk hS => (hg.block k (Nat.lt_of_lt_of_le hk h.size) (fun e => hS (hr k e.symm hk))).trans (h.block k hk hS)⟩

theorem Kept.below {S : List Nat} {a w : World} (h : Kept S a w) {B : Nat} (hB : B ≤ a.heap.size) (hS : ∀ x ∈ S, B ≤ x) : Below B a w :=
  ⟨h.os, h.tape, h.output, h.size, fun k hk => h.block k (Nat.lt_of_lt_of_le hk hB) (fun e => by have := hS k e; omega)⟩

theorem Below.kept {w w' : World} (h : Below w.heap.size w w') (S : List Nat) : Kept S w w' := ⟨h.os, h.tape, h.output, h.size, fun k hk _ => h.block k hk⟩

theorem Kept.cell {S : List Nat} {a w : World} (h : Kept S a w) {p : Addr} (hp : p.block < a.heap.size) (hS : p.block ∉ S) : w.cell? p = a.cell? p := World.cell?_of_block (w := a) (h.block p.block hp hS)
theorem Kept.frozen {S : List Nat} {a w : World} (h : Kept S a w) {p : Addr} (hp : p.block < a.heap.size) (hS : p.block ∉ S) : w.frozen? p = a.frozen? p := World.frozen?_of_block (w := a) (h.block p.block hp hS)
theorem Kept.blk {S : List Nat} {a w : World} (h : Kept S a w) {k : Nat} {o : Obj} (hk : a.heap[k]? = some o) (hS : k ∉ S) : w.heap[k]? = some o := (h.block k (lt_of_block hk) hS).trans hk

/-- What is owned stays owned where its block is not among those that may have turned. -/
theorem Kept.owns {S : List Nat} {a w : World} (h : Kept S a w) {base : Nat} {e : TypeId} {size : Nat} {v : Value} {n : Nat} {xs : List Value} (ho : a.ownsRow base e size v n xs) (hS : ∀ k, v.ownBlock = some k → k ∉ S) : w.ownsRow base e size v n xs := by
  refine ⟨ho.1, ?_⟩
  rcases ho.2 with hn | ⟨g, cap, cur, rfl, hb, hgg, rest⟩
  · exact .inl hn
  · exact .inr ⟨g, cap, cur, rfl, hb, h.blk hgg (hS g rfl), rest⟩

/-- A cell of a block that is known whole. -/
theorem cell_blk {w : World} {b o : Nat} {cs : Array Value} {t : TypeId} {m : Nat × Nat} {v : Value} (h : w.heap[b]? = some (.cells cs t m)) (hv : cs[o]? = some v) : w.cell? ⟨b, o, none⟩ = some v := by simp [World.cell?, h, hv]
theorem free_blk {w : World} {b o : Nat} {cs : Array Value} {t : TypeId} (h : w.heap[b]? = some (.cells cs t (0, 0))) : w.frozen? ⟨b, o, none⟩ = false := by simp [World.frozen?, h]
theorem blk_setCell {w : World} {b o : Nat} {cs : Array Value} {t : TypeId} {m : Nat × Nat} (u : Value) (h : w.heap[b]? = some (.cells cs t m)) : (w.setCell ⟨b, o, none⟩ u).heap[b]? = some (.cells (cs.setIfInBounds o u) t m) := by
  have hlt := lt_of_block h
  have h' : w.heap[b] = .cells cs t m := by simpa [Array.getElem?_eq_getElem hlt] using h
  show (w.heap.modify b _)[b]? = _
  rw [Array.getElem?_eq_getElem (by simpa using hlt), Array.getElem_modify_self, h']
  rfl

/-- 'copy(row, src)' that fills a known row whole, as one step of a region that draws its order. -/
theorem step_copy_row {P : Program} {ops : Array Oper} {o : Oper} {a : Act} {w : World} {K : Act → World → Prop} {Q : Exit → Act → World → Prop} {E : Prop} (hgd : o.guard = none) (d s : Operand) (dT sT : TypeId)
    (ho : o.op = .call { callee := .builtin .copy, args := #[d, s], argTypes := #[dT, sT] }) (elem : TypeId) (hu : P.underlying dT = some (.slice elem)) (hsz : (P.info? elem).map (·.size) = some 1)
    (g dLen dCap : Nat) (ad : Addr) (sLen sCap : Nat) (hd : a.eval d = .slice (some ⟨g, 0, none⟩) dLen dCap) (hs : a.eval s = .slice (some ad) sLen sCap)
    (cur : Array Value) (t : TypeId) (hg : w.heap[g]? = some (.cells cur t (0, 0))) (cs : List Value) (hn : cs.length = dLen) (hle : dLen ≤ sLen) (hfit : cur.size = dLen)
    (hsrc : ∀ j v, cs[j]? = some v → w.cell? (ad.add j) = some v) (h1 : ∀ v ∈ cs, v.oneCell' = true)
    (h : K (a.put o.dst (.int .i64 dLen)) (w.setRow g cs.toArray)) :
    if Region.wanted o (yielded ops a.tmps) = true then Oper.wp P o a w K Q else E := by
  have hw : Region.wanted o (yielded ops a.tmps) = true := by simp [Region.wanted, hgd]
  rw [if_pos hw]
  have hrun := run_copy_row (P := P) w dT sT o.type elem g 0 dLen dCap ad sLen sCap cur t cs hu hsz hg (by rw [hn]; simp only [Nat.min_def]; split <;> omega) hsrc (by omega) h1
  have e : cur.toList.take 0 ++ cs ++ cur.toList.drop (0 + cs.length) = cs := by
    rw [List.drop_eq_nil_of_le (by rw [Array.length_toList]; omega)]; simp
  rw [e] at hrun
  unfold Oper.wp
  simp [execOp, ho, resolve, invoke, builtin, hd, hs, hrun, Result.andThen]
  rw [← hn] at h
  exact h

theorem own_slice {w : World} {base : Nat} {e : TypeId} {size : Nat} {v : Value} {n : Nat} {xs : List Value} (h : w.ownsRow base e size v n xs) : ∃ ao cp, v = .slice ao n cp := by
  rcases h.2 with ⟨rfl, rfl⟩ | ⟨g, cap, cur, rfl, _⟩
  · exact ⟨_, _, rfl⟩
  · exact ⟨_, _, rfl⟩

/-- 'out = append(out, ..)' on what the call owns, as one step of a region that draws its order. -/
theorem step_append_own {P : Program} {ops : Array Oper} {o : Oper} {a : Act} {w : World} {K : Act → World → Prop} {Q : Exit → Act → World → Prop} {E : Prop}
    (hg : o.guard = none) (s x : Operand) (t : TypeId) (hop : o.op = Op.call { callee := Callee.builtin Builtin.append, args := #[s, x], argTypes := #[t, t] })
    (base : Nat) (e : TypeId) (i : TypeInfo) (z : Value) (size bytes : Nat) (h1 : P.underlying t = some (.slice e)) (h2 : P.info? e = some i) (h3 : i.zero = some z) (h4 : i.size = size) (h5 : i.bytes = bytes) (h6 : z.cells.size = size) (h7 : 0 < size)
    (v : Value) (n : Nat) (xs : List Value) (hs : a.eval s = v) (hown : w.ownsRow base e size v n xs)
    (ad : Addr) (m c : Nat) (news : List Value) (hx : a.eval x = .slice (some ad) m c) (hn : news.length = m * size) (hc : ∀ j u, news[j]? = some u → w.cell? (ad.add j) = some u) (h1c : ∀ u ∈ news, u.oneCell' = true)
    (b1 : n + m ≤ maxLen) (b2 : (n + m) * bytes ≤ 140737488355328) (hb : base ≤ w.heap.size)
    (hK : ∀ ao cp w', w'.ownsRow base e size (.slice ao (n + m) cp) (n + m) (xs ++ news) → w.grownBy w' v.ownBlock → K (a.put o.dst (.slice ao (n + m) cp)) w') :
    if Region.wanted o (yielded ops a.tmps) = true then Oper.wp P o a w K Q else E := by
  have hw : Region.wanted o (yielded ops a.tmps) = true := by simp [Region.wanted, hg]
  rw [if_pos hw]
  obtain ⟨v', w', hrun, r1, r2, _⟩ := run_append_own (P := P) w base t o.type e i z size bytes h1 h2 h3 h4 h5 h6 h7 v n xs hown ad m c news hn hc h1c b1 b2 hb
  unfold Oper.wp
  simp [execOp, hop, resolve, invoke, builtin, hs, hx, hrun, Result.andThen]
  obtain ⟨ao, cp, rfl⟩ := own_slice r1
  exact hK ao cp w' r1 r2

theorem grown_blk {w w1 : World} {row : Option Nat} (hg : w.grownBy w1 row) {k : Nat} {o : Obj} (hk : w.heap[k]? = some o) (hne : some k ≠ row) : w1.heap[k]? = some o := (hg.block k (lt_of_block hk) hne).trans hk
end Go.Proofs.YbulkcxpqFmt
