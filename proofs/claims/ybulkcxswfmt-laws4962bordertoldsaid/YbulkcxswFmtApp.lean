import Derived.Test.YbulkcxswFmtKept
import Derived.Deep.AppendLies
import Derived.ArgAppend
namespace Go.Proofs.YbulkcxswFmt
open Go Go.RowKit Go.Deep

theorem append_ty {P : Program} (ts : Array TypeId) (ty ty' : TypeId) (vs : Array Value) (w : World) : (Builtin.append_ ts ty vs).run P w = (Builtin.append_ ts ty' vs).run P w := rfl

theorem cell_new1 (w : World) (cs : Array Value) (e : TypeId) : ∀ j u, cs.toList[j]? = some u → (w.alloc (.cells cs e)).cell? ((⟨w.heap.size, 0, none⟩ : Addr).add j) = some u :=
  World.news_of_block (heap_alloc_new w _)

/-- 'append(s, E{..})' onto a row that is owned: the element laid in a block of its own first. -/
theorem append_own {P : Program} (t e : TypeId) (z : Value) (size bytes : Nat) (ht : P.underlying t = some (.slice e)) (hinfo : (P.info? e).map (fun i => (i.zero, i.size, i.bytes)) = some (some z, size, bytes)) (hzs : z.cells.size = size) (hsz : 0 < size)
    (w : World) (base : Nat) (v : Value) (n : Nat) (xs : List Value) (hown : w.ownsRow base e size v n xs) (us : List Value) (hus : us.length = size) (h1 : ∀ u ∈ us, u.oneCell' = true) (hn : n ≤ 1000) (hb : bytes ≤ 1000) (hbase : base ≤ w.heap.size) :
    ∃ g cap w', (∀ ty, (Builtin.append_ #[t, t] ty #[v, .slice (some ⟨w.heap.size, 0, none⟩) 1 1]).run P (w.alloc (.cells us.toArray e)) = .ok (.slice (some ⟨g, 0, none⟩) (n + 1) cap) w') ∧
      w'.ownsRow base e size (.slice (some ⟨g, 0, none⟩) (n + 1) cap) (n + 1) (xs ++ us) ∧ (w.alloc (.cells us.toArray e)).grownBy w' v.ownBlock ∧ base ≤ g ∧ g < w'.heap.size ∧ (v.ownBlock = some g ∨ w.heap.size < g) := by
  obtain ⟨i, hi, he⟩ := Option.map_eq_some_iff.1 hinfo
  simp only [Prod.mk.injEq] at he
  obtain ⟨g, cap, w', hr, h2, h3, h4, h5⟩ := run_append_lies (P := P) (w.alloc (.cells us.toArray e)) t 0 base e i z size bytes ht hi he.1 he.2.1 he.2.2 hzs hsz v n xs (hown.alloc _) ⟨w.heap.size, 0, none⟩ 1 1 us (by omega) (fun j u hj => cell_new1 w us.toArray e j u (by simpa using hj)) h1 (by omega) (by unfold maxLen; omega) (by
    have : (n + 1) * bytes ≤ 1001 * 1000 := Nat.mul_le_mul (by omega) hb
    omega) (by simp; omega) (w.heap.size + 1) (by simp)
  refine ⟨g, cap, w', fun ty => (append_ty _ ty 0 _ _).trans hr, h2, h3, ?_, h5, ?_⟩
  · rcases h4 with h4 | h4
    · exact (hown.lt g h4).1
    · omega
  · rcases h4 with h4 | h4
    · exact .inl h4
    · exact .inr (by omega)

/-- An append whose outcome is known, for the walk. -/
theorem wpList_append_run {P : Program} (w : World) {ops : Array Oper} {rest : List Oper} {o : Oper} {a : Act} {Q : Exit → Act → World → Prop}
    (hg : o.guard = none) (s x : Operand) (t : TypeId) (hop : o.op = Op.call { callee := Callee.builtin Builtin.append, args := #[s, x], argTypes := #[t, t] })
    (v1 v2 v' : Value) (w' : World) (hs : a.eval s = v1) (hx : a.eval x = v2) (hrun : ∀ ty, (Builtin.append_ #[t, t] ty #[v1, v2]).run P w = .ok v' w')
    (hK : wpList P ops Q rest (a.put o.dst v') w') : wpList P ops Q (o :: rest) a w := by
  refine wpList_plain hg fun K hK' => ?_
  unfold Oper.wp
  simp [execOp, hop, resolve, invoke, builtin, hs, hx, hrun, Result.andThen]
  exact hK' _ _ hK

/-- 'append(s[k:], u)', s a row that is owned: in room the cell behind s is written, else a new row is made. -/
theorem append_cut {P : Program} (t e : TypeId) (z : Value) (bytes : Nat) (ht : P.underlying t = some (.slice e)) (hinfo : (P.info? e).map (fun i => (i.zero, i.size, i.bytes)) = some (some z, 1, bytes)) (hzs : z.cells.size = 1)
    (w : World) (base g n cap k : Nat) (xs : List Value) (hown : w.ownsRow base e 1 (.slice (some ⟨g, 0, none⟩) n cap) n xs) (u : Value) (h1 : u.oneCell' = true) (hn : n ≤ 1000) (hb : bytes ≤ 1000) (hk : k ≤ n) :
    ∃ b off cap' w', (∀ ty, (Builtin.append_ #[t, t] ty #[.slice (some ⟨g, k, none⟩) (n - k) (cap - k), .slice (some ⟨w.heap.size, 0, none⟩) 1 1]).run P (w.alloc (.cells #[u] e)) = .ok (.slice (some ⟨b, off, none⟩) (n - k + 1) cap') w') ∧
      n - k + 1 ≤ cap' ∧ b < w'.heap.size ∧ (∀ j x, (xs.drop k ++ [u])[j]? = some x → w'.cell? ⟨b, off + j, none⟩ = some x) ∧ (w.alloc (.cells #[u] e)).grownBy w' (some g) := by
  obtain ⟨i, hi, he⟩ := Option.map_eq_some_iff.1 hinfo
  simp only [Prod.mk.injEq] at he
  have hxl : xs.length = n := by have := hown.1; omega
  have hcs : ∀ j x, xs[j]? = some x → (w.alloc (.cells #[u] e)).cell? ⟨g, j, none⟩ = some x := fun j x hj => by
    have := (hown.alloc (.cells #[u] e)).cells (g := g) rfl j x hj
    rwa [Addr.add_lit, Nat.zero_add] at this
  obtain ⟨g', cap2, cur, hv, hbg, hg, hnc, hcm, hcz, htk⟩ := hown.2.resolve_left (fun h => by cases h.1)
  have hgg : g = g' ∧ cap = cap2 := by cases hv; exact ⟨rfl, rfl⟩
  obtain ⟨e1, e2⟩ := hgg
  subst e1 e2
  have hglt : g < w.heap.size := (Array.getElem?_eq_some_iff.1 hg).1
  have hg2 : (w.alloc (.cells #[u] e)).heap[g]? = some (.cells cur e (0, 0)) := (heap_alloc_old w _ hglt).trans hg
  by_cases hroom : n - k + 1 ≤ cap - k
  · have hcell : ((w.alloc (.cells #[u] e)).cell? ⟨g, n, none⟩).isSome = true := by
      rw [cell_of_row _ g n cur e (0, 0) hg2, Array.getElem?_eq_getElem (by omega)]
      rfl
    have hfro : (w.alloc (.cells #[u] e)).frozen? ⟨g, n, none⟩ = false := by simp [World.frozen?, hg2]
    have hr := run_append_room_cells (P := P) (w.alloc (.cells #[u] e)) t 0 e i ht hi g k (n - k) (cap - k) ⟨w.heap.size, 0, none⟩ 1 1 [u] (by simp [he.2.1]) (fun j x hj => cell_new1 w #[u] e j x (by simpa using hj)) (by simpa using h1) hroom (fun j hj => by
        have hj0 : j = 0 := by simpa using hj
        subst hj0
        rw [he.2.1, show k + (n - k) * 1 + 0 = n from by omega]
        exact hcell) (fun j hj => by
        have hj0 : j = 0 := by simpa using hj
        subst hj0
        rw [he.2.1, show k + (n - k) * 1 + 0 = n from by omega]
        exact hfro)
    rw [he.2.1, show k + (n - k) * 1 = n from by omega] at hr
    refine ⟨g, k, cap - k, _, fun ty => (append_ty _ ty 0 _ _).trans hr, hroom, ?_, ?_, ⟨rfl, rfl, rfl, ?_, ?_⟩⟩
    · show g < ((w.alloc (.cells #[u] e)).setCell ⟨g, n, none⟩ u).heap.size
      simp; omega
    · intro j x hj
      show ((w.alloc (.cells #[u] e)).setCell ⟨g, n, none⟩ u).cell? _ = _
      by_cases hjn : k + j = n
      · rw [List.getElem?_append_right (by simp; omega)] at hj
        have hux : u = x := by
          rw [show j - (xs.drop k).length = 0 from by simp; omega] at hj
          simpa using hj
        subst hux
        rw [hjn]
        have := (World.cell?_setCells_in g [u] n (w.alloc (.cells #[u] e)) (fun i hi => by
          have : i = 0 := by simpa using hi
          subst this; exact hcell) 0 (by simp))
        simpa [World.setCells] using this
      · have hjl : j < (xs.drop k).length := by
          have := (List.getElem?_eq_some_iff.1 hj).1
          simp at this ⊢
          omega
        rw [List.getElem?_append_left hjl, List.getElem?_drop] at hj
        have := World.cell?_setCells_out g [u] n (w.alloc (.cells #[u] e)) ⟨g, k + j, none⟩ (fun _ _ => by simp at hjl; simp; omega)
        have h2 := hcs (k + j) x hj
        rw [← h2, ← this]
        rfl
    · show (w.alloc (.cells #[u] e)).heap.size ≤ ((w.alloc (.cells #[u] e)).setCell ⟨g, n, none⟩ u).heap.size
      simp
    · intro q hq hne
      exact blk_setCell_other _ _ _ _ (fun h => hne (by rw [h]))
  · obtain ⟨v', w', hr, h2, h3⟩ := run_append_arg_grows (P := P) (w.alloc (.cells #[u] e)) t 0 e i z 1 bytes ht hi he.1 he.2.1 he.2.2 hzs (by omega) ⟨g, k, none⟩ (n - k) (cap - k) (xs.drop k) (by simp; omega) (fun j x hj => by
        rw [Addr.add_lit]
        rw [List.getElem?_drop] at hj
        exact hcs _ x hj) ⟨w.heap.size, 0, none⟩ 1 1 [u] (by simp) (fun j x hj => cell_new1 w #[u] e j x (by simpa using hj)) (by omega) (by unfold maxLen; omega) (by
        have : (n - k + 1) * bytes ≤ 1001 * 1000 := Nat.mul_le_mul (by omega) hb
        omega)
    obtain ⟨g2, cap2, rfl, _, hlt⟩ := h2.form (by omega)
    obtain ⟨g3, cap3, cur3, hv3, _, _, hnc3, _⟩ := h2.2.resolve_left (fun h => by cases h.1)
    have : cap2 = cap3 := by cases hv3; rfl
    subst this
    refine ⟨g2, 0, cap2, w', fun ty => (append_ty _ ty 0 _ _).trans hr, hnc3, hlt, fun j x hj => ?_, ⟨h3.os, h3.tape, h3.output, h3.size, fun q hq _ => h3.block q hq (by simp)⟩⟩
    have := h2.cells (g := g2) rfl j x hj
    rwa [Addr.add_lit] at this
end Go.Proofs.YbulkcxswFmt
