import Derived.Test.YbulkcxswFmtOrder
import Derived.BigRegion
import Derived.Test.YbulkcxswFmtReg27
namespace Go.Proofs.YbulkcxswFmt
open Go Go.RowKit Go.Deep Go.Extern.Stop Go.Stop Go.Extern

def itLeft (n r : Nat) (w : World) : Nat :=
  match w.heap[r]? with
  | some (.mapIter _ _ seen _) => n - seen.size
  | _ => 0
theorem itLeft_eq {n r c k : Nat} {w : World} {o : Option Nat} {seen : Array Nat} (h : w.heap[r]? = some (.mapIter o c seen k)) : itLeft n r w = n - seen.size := by unfold itLeft; rw [h]
theorem zero39 (w : World) : (zeroValue 39).run Ybaf.prog w = .ok (.agg #[.string ⟨#[]⟩, .bool false, .string ⟨#[]⟩, .nilIface, .slice none 0 0, .slice none 0 0]) w := Ybaf.zeroValue39 w
theorem named_at {l : List Nat} {f : Nat → Value} {i : Nat} (h : i < (named l f).length) : (named l f)[i]'h = (nm (l.getD i 0), f (l.getD i 0)) := by
  have hi : i < l.length := by simpa [named] using h
  simp [named, List.getElem?_eq_getElem hi]
theorem getD_range {n i : Nat} (h : i < n) : (List.range n).getD i 0 = i := by simp [h]

/-- A field out of a whole value, for the walk. -/
theorem wpList_field_run {P : Program} (w : World) {ops : Array Oper} {rest : List Oper} {o : Oper} {a : Act} {Q : Exit → Act → World → Prop}
    (hg : o.guard = none) (x : Operand) (t : TypeId) (i : Nat) (hop : o.op = Op.field t x i)
    (v v' : Value) (hx : a.eval x = v) (hrun : (Instr.field t v i).run P w = .ok v' w)
    (hK : wpList P ops Q rest (a.put o.dst v') w) : wpList P ops Q (o :: rest) a w := by
  refine wpList_plain hg fun K hK' => ?_
  unfold Oper.wp
  simp [execOp, hop, hx, hrun, Result.andThen]
  exact hK' _ _ hK
theorem field39 (c0 c1 c2 c3 c4 c5 : Value) (w : World) : (Instr.field 39 (.agg #[c0, c1, c2, c3, c4, c5]) 1).run Ybaf.prog w = .ok c1 w := by kernel_rfl

/-- An append whose outcome is known, at a step of a region that draws. -/
theorem step_append_run {P : Program} {w : World} {ops : Array Oper} {o : Oper} {a : Act} {K : Act → World → Prop} {Q : Exit → Act → World → Prop} {E : Prop}
    (hg : o.guard = none) (s x : Operand) (t : TypeId) (hop : o.op = Op.call { callee := Callee.builtin Builtin.append, args := #[s, x], argTypes := #[t, t] })
    (v1 v2 v' : Value) (w' : World) (hs : a.eval s = v1) (hx : a.eval x = v2) (hrun : ∀ ty, (Builtin.append_ #[t, t] ty #[v1, v2]).run P w = .ok v' w')
    (hK : K (a.put o.dst v') w') : if Region.wanted o (yielded ops a.tmps) = true then Oper.wp P o a w K Q else E := by
  have hw : Region.wanted o (yielded ops a.tmps) = true := by simp [Region.wanted, hg]
  rw [if_pos hw]
  unfold Oper.wp
  simp [execOp, hop, resolve, invoke, builtin, hs, hx, hrun, Result.andThen]
  exact hK
theorem info47 : (Ybaf.prog.info? 47).map (fun i => (i.zero, i.size, i.bytes)) = some (some (.agg #[.string ⟨#[]⟩, .string ⟨#[]⟩, .bool false, .slice none 0 0, .string ⟨#[]⟩]), 5, 80) := by kernel_rfl

structure Tmpl (w : World) (bt mr n : Nat) (deps : Nat → List Nat) (cu : Nat → Bool) (ty po : Nat → ByteArray) (ws : Nat → Value) : Prop where
  tmpl : w.rowIs bt 33 4 (tmplF mr (.slice none 0 0))
  map : StrMap w mr (named (List.range n) (resV cu ty po ws))
  names : ∀ i, i < n → IsRow w [bt] (ws i) (deps i) enS
  hn : n ≤ 256
  ne : mr ≠ bt
  dlow : ∀ i, i < n → ∀ d ∈ deps i, d < 676
  dlen : ∀ i, i < n → (deps i).length ≤ 256

/-- The cells of the resources that have been ordered. -/
def resCells (cu : Nat → Bool) (ty po : Nat → ByteArray) (vs : Nat → Value) (i : Nat) : List Value := [.string (nm i), .string (ty i), .bool (cu i), vs i, .string (po i)]
def ResRow (w : World) (bt n base : Nat) (pl : List Nat) (cu : Nat → Bool) (ty po : Nat → ByteArray) (N : Nat → Nat → Bool) (v : Value) (k : Nat) : Prop :=
  ∃ vs : Nat → Value, w.ownsRow base 47 5 v k ((pl.take k).flatMap (resCells cu ty po vs)) ∧ ∀ x ∈ pl.take k, IsRow w [bt] (vs x) (lst n (N x)) enS
def ResEnd (w : World) (bt mr n : Nat) (deps : Nat → List Nat) (cu : Nat → Bool) (ty po : Nat → ByteArray) (N : Nat → Nat → Bool) (a : Addr) (e : Ending) (w' : World) : Prop :=
  ((ord deps n).length < n ∧ Below w.heap.size w w' ∧ ∃ k, e = .returned (.iface 77 (.pointer (some ⟨k, 0, none⟩))) ∧ k < w'.heap.size ∧ w'.cell? ⟨k, 1, none⟩ = some (.iface 90 (.pointer (some a)))) ∨
  (Road deps n (ord deps n) ∧ (ord deps n).length = n ∧ Kept [bt] w w' ∧ e = .returned .nilIface ∧ ∃ v, w'.rowIs bt 33 4 (tmplF mr v) ∧ ResRow w' bt n w.heap.size (ord deps n) cu ty po N v n)

/-! ### The sets -/
theorem setM_same {k : ByteArray} {v : Value} : ∀ {L : SM}, getM L k = some v → setM L k v = L
  | [], h => by cases h
  | (k', v') :: r, h => by
    simp only [getM] at h
    by_cases e : k = k'
    · rw [if_pos e] at h
      injection h with h
      subst e h
      simp only [setM, if_true]
    · rw [if_neg e] at h
      simp only [setM, if_neg e, setM_same h]
def addQ (q : List Nat) (d : Nat) : List Nat := if d ∈ q then q else q ++ [d]
theorem addQ_mem (q : List Nat) (d x : Nat) : x ∈ addQ q d ↔ x ∈ q ∨ x = d := by
  unfold addQ
  by_cases h : d ∈ q
  · rw [if_pos h]
    exact ⟨.inl, fun h2 => h2.elim id (fun e => e ▸ h)⟩
  · rw [if_neg h]
    simp
theorem addQ_nodup {q : List Nat} (h : q.Nodup) (d : Nat) : (addQ q d).Nodup := by
  unfold addQ
  by_cases hd : d ∈ q
  · rw [if_pos hd]; exact h
  · rw [if_neg hd, List.nodup_append]
    exact ⟨h, by simp, fun a ha b hb e => hd (by
      have : b = d := by simpa using hb
      rw [← this, ← e]; exact ha)⟩
theorem setM_addQ {q : List Nat} {d : Nat} (hl : ∀ x ∈ q, x < 676) (hd : d < 676) : setM (named q fun _ => .bool true) (nm d) (.bool true) = named (addQ q d) fun _ => .bool true := by
  unfold addQ
  by_cases h : d ∈ q
  · rw [if_pos h]
    exact setM_same (by rw [getM_named _ hd q hl, if_pos h])
  · rw [if_neg h]
    exact setM_true hl hd h
structure SetAt (w4 wx : World) (Ns n : Nat) (q : List Nat) (r : Nat → Prop) : Prop where
  nodup : q.Nodup
  mem : ∀ x, x ∈ q ↔ r x
  low : ∀ x ∈ q, x < n
  map : StrMap wx Ns (named q fun _ => .bool true)
  kept : Kept [Ns] w4 wx
theorem SetAt.add {w4 wx : World} {Ns n : Nat} {q : List Nat} {r : Nat → Prop} (h : SetAt w4 wx Ns n q r) (hn : n ≤ 256) {d : Nat} (hd : d < n) {r' : Nat → Prop} (hr : ∀ x, r' x ↔ r x ∨ x = d) :
    SetAt w4 (World.putObj wx Ns (mapObj (named (addQ q d) fun _ => .bool true))) Ns n (addQ q d) r' where
  nodup := addQ_nodup h.nodup d
  mem := fun x => by rw [addQ_mem, hr, h.mem]
  low := fun x hx => by
    rcases (addQ_mem q d x).1 hx with h1 | h1
    · exact h.low x h1
    · omega
  map := by
    have := h.map.put (nm d) (.bool true)
    rwa [setM_addQ (fun x hx => by have := h.low x hx; omega) (by omega)] at this
  kept := h.kept.putObj (fun _ => by simp) _
theorem SetAt.upd {w4 wx : World} {Ns n : Nat} {q : List Nat} {r : Nat → Prop} (h : SetAt w4 wx Ns n q r) (hn : n ≤ 256) {d : Nat} (hd : d < n) :
    (Instr.mapUpdate 52 (.map (some Ns)) (.string (nm d)) (.bool true)).run Ybaf.prog wx = .ok () (World.putObj wx Ns (mapObj (named (addQ q d) fun _ => .bool true))) := by
  have := run_mapUpdate_str (P := Ybaf.prog) wx 52 9 4 Ybaf.underlying52 Ybaf.underlying9 Ns _ h.map (nm d) (.bool true)
  rwa [setM_addQ (fun x hx => by have := h.low x hx; omega) (by omega)] at this

theorem mem_cust {cu : Nat → Bool} {n : Nat} {N : Nat → Nat → Bool} {ds : List Nat} {d : Nat} (hd : d < n) (hc : cu d = true) (x : Nat) : (x < n ∧ row cu n N (ds ++ [d]) x = true) ↔ (x < n ∧ row cu n N ds x = true) ∨ x = d := by
  rw [row_snoc, hc]
  simp only [hd, decide_true, Bool.true_and, if_true, Bool.or_eq_true, beq_iff_eq]
  constructor
  · rintro ⟨h1, h2 | h2⟩
    · exact .inl ⟨h1, h2⟩
    · exact .inr h2
  · rintro (⟨h1, h2⟩ | h2)
    · exact ⟨h1, .inl h2⟩
    · exact ⟨by omega, .inr h2⟩
theorem mem_rest {cu : Nat → Bool} {n : Nat} {N : Nat → Nat → Bool} {ds : List Nat} {d : Nat} (hd : d < n) (hc : cu d = false) (x : Nat) : (x < n ∧ row cu n N (ds ++ [d]) x = true) ↔ (x < n ∧ row cu n N ds x = true) ∨ x ∈ lst n (N d) := by
  rw [row_snoc, hc, mem_lst]
  simp only [hd, decide_true, Bool.true_and, Bool.false_eq_true, if_false, Bool.or_eq_true]
  constructor
  · rintro ⟨h1, h2 | h2⟩
    · exact .inl ⟨h1, h2⟩
    · exact .inr ⟨h1, h2⟩
  · rintro (⟨h1, h2⟩ | ⟨h1, h2⟩)
    · exact ⟨h1, .inl h2⟩
    · exact ⟨h1, .inr h2⟩
theorem mem_far {cu : Nat → Bool} {n : Nat} {N : Nat → Nat → Bool} {ds : List Nat} {d : Nat} (hd : ¬ d < n) (x : Nat) : (x < n ∧ row cu n N (ds ++ [d]) x = true) ↔ (x < n ∧ row cu n N ds x = true) ∨ x ∈ ([] : List Nat) := by
  rw [row_snoc]
  simp [hd]

structure ResAt (w3 wr : World) (bt mr Nd n k : Nat) (pl : List Nat) (cu : Nat → Bool) (ty po : Nat → ByteArray) (N : Nat → Nat → Bool) (vs : Nat → Value) (v : Value) : Prop where
  kept : Kept [bt, Nd] w3 wr
  map : StrMap wr Nd (named (pl.take k) vs)
  rows : ∀ x ∈ pl.take k, IsRow wr (bt :: Nd :: v.ownBlock.toList) (vs x) (lst n (N x)) enS
  tmpl : wr.rowIs bt 33 4 (tmplF mr v)
  owns : wr.ownsRow w3.heap.size 47 5 v k ((pl.take k).flatMap (resCells cu ty po vs))

theorem flat_congr {l : List Nat} {f g : Nat → List Value} (h : ∀ x ∈ l, f x = g x) : l.flatMap f = l.flatMap g := by
  induction l with
  | nil => rfl
  | cons a r ih => rw [List.flatMap_cons, List.flatMap_cons, h a (by simp), ih (fun x hx => h x (by simp [hx]))]
theorem ResAt.step {w3 wk w5 w6 w7 w8 : World} {bt mr Nd n k i bk ll g cap' : Nat} {pl : List Nat} {cu : Nat → Bool} {ty po : Nat → ByteArray} {N : Nat → Nat → Bool} {vs vs' : Nat → Value} {v : Value}
    (r0 : ResAt w3 wk bt mr Nd n k pl cu ty po N vs v) (hbt : bt < Nd) (hNd : w3.heap.size = Nd + 1) (B5 : Below wk.heap.size wk w5) (K56 : Kept [Nd] w5 w6) (K7 : Kept [] w6 w7)
    (M7 : StrMap w7 Nd (named (pl.take (k + 1)) vs')) (T7 : w7.rowIs bt 33 4 (tmplF mr v)) (hbk : w5.rowIs bk 9 (lst n (N i)).length (fun j => .string (nm ((lst n (N i)).getD j 0)))) (hbk3 : wk.heap.size ≤ bk) (hll : ll = (lst n (N i)).length)
    (hvs' : vs' = fun x => if x = i then .slice (some ⟨bk, 0, none⟩) ll ll else vs x) (hit : i ∉ pl.take k) (htk1 : pl.take (k + 1) = pl.take k ++ [i])
    (hown : w8.ownsRow w3.heap.size 47 5 (.slice (some ⟨g, 0, none⟩) (k + 1) cap') (k + 1) ((pl.take k).flatMap (resCells cu ty po vs) ++ [.string (nm i), .string (ty i), .bool (cu i), .slice (some ⟨bk, 0, none⟩) ll ll, .string (po i)]))
    (hgr : (w7.drew.alloc (.cells [Value.string (nm i), .string (ty i), .bool (cu i), .slice (some ⟨bk, 0, none⟩) ll ll, .string (po i)].toArray 47)).grownBy w8 v.ownBlock) (hbg : w3.heap.size ≤ g) (hwh : v.ownBlock = some g ∨ w7.drew.heap.size < g) :
    ResAt w3 (w8.setCell ⟨bt, 2, none⟩ (.slice (some ⟨g, 0, none⟩) (k + 1) cap')) bt mr Nd n (k + 1) pl cu ty po N vs' (.slice (some ⟨g, 0, none⟩) (k + 1) cap') := by
  have hkN : Nd < wk.heap.size := r0.map.lt
  have hown' : ∀ x, v.ownBlock = some x → w3.heap.size ≤ x ∧ x < wk.heap.size := fun x hx => r0.owns.lt x hx
  have z5 : wk.heap.size ≤ w5.heap.size := B5.size
  have z6 : w5.heap.size ≤ w6.heap.size := K56.size
  have z7 : w6.heap.size ≤ w7.heap.size := K7.size
  have hgrow : Kept v.ownBlock.toList w7 w8 := (((Kept.refl _ w7).drew).alloc _).grown hgr (fun x hx _ => by rw [hx]; simp)
  have hset : Kept [bt] w8 (w8.setCell ⟨bt, 2, none⟩ (.slice (some ⟨g, 0, none⟩) (k + 1) cap')) := (Kept.refl _ w8).setCell (fun _ => by simp) _
  have k57 : Kept [Nd] w5 w7 := K56.then (K7.mono (by simp))
  have k58 : Kept (bt :: Nd :: v.ownBlock.toList) w5 (w8.setCell ⟨bt, 2, none⟩ (.slice (some ⟨g, 0, none⟩) (k + 1) cap')) :=
    (k57.trans hgrow (S := bt :: Nd :: v.ownBlock.toList) (by simp) (fun x hx _ => by simp at hx ⊢; exact .inr (.inr hx))).trans hset (fun x h => h) (fun x hx _ => by simp at hx ⊢; exact .inl hx)
  have kk8 : Kept (bt :: Nd :: v.ownBlock.toList) wk (w8.setCell ⟨bt, 2, none⟩ (.slice (some ⟨g, 0, none⟩) (k + 1) cap')) :=
    (Below.kept B5 _).then k58
  have hNdo : ∀ x ∈ v.ownBlock.toList, x ≠ Nd ∧ x ≠ bt := fun x hx => by
    have := hown' x (by simpa using hx)
    omega
  have gne : g ≠ Nd ∧ g ≠ bt := by omega
  refine ⟨?_, ?_, ?_, ?_, ?_⟩
  · exact r0.kept.trans kk8 (fun x h => h) (fun x hx hlt => by
      simp only [List.mem_cons] at hx ⊢
      rcases hx with h | h | h
      · exact .inl h
      · exact .inr (.inl h)
      · have := hown' x (by simpa using h)
        omega)
  · exact (hset.strMap (hgrow.strMap M7 (fun h => (hNdo Nd h).1 rfl)) (by simp; omega))
  · intro x hx
    rw [htk1] at hx
    rcases List.mem_append.1 hx with hx | hx
    · have hxi : x ≠ i := fun e => hit (e ▸ hx)
      rw [hvs']
      simp only [if_neg hxi]
      have h1 := (r0.rows x hx).kept kk8 (fun y hy => .inl hy)
      obtain ⟨ao, cap, hv, hc⟩ := r0.rows x hx
      obtain ⟨ao2, cap2, hv2, hc2⟩ := h1
      refine ⟨ao2, cap2, hv2, fun hne => ?_⟩
      obtain ⟨b1, o1, ha1, hl1, hn1, hcs1⟩ := hc2 hne
      obtain ⟨b0, o0, ha0, hl0, hn0, _⟩ := hc hne
      have e2 : ao = ao2 := by rw [hv] at hv2; injection hv2
      have e3 : b0 = b1 := by rw [e2, ha1] at ha0; injection ha0 with h; injection h with h; exact h.symm
      refine ⟨b1, o1, ha1, hl1, fun hm => ?_, hcs1⟩
      simp only [Value.ownBlock, Option.toList, List.mem_cons, List.not_mem_nil, or_false] at hm
      rcases hm with h | h | h
      · exact hn1 (by simp [h])
      · exact hn1 (by simp [h])
      · rcases hwh with h2 | h2
        · exact hn1 (by rw [h, h2]; simp)
        · have : w7.drew.heap.size = w7.heap.size := rfl
          omega
    · have hxi : x = i := by simpa using hx
      subst hxi
      rw [hvs']
      simp only [if_true]
      rw [hll]
      have hbo : bk ∉ (bt :: Nd :: v.ownBlock.toList) := fun hm => by
        simp only [List.mem_cons] at hm
        rcases hm with h | h | h
        · omega
        · omega
        · have := hown' bk (by simpa using h)
          omega
      have hrow := k58.row hbk hbo
      refine IsRow.of_row hrow (Nat.le_refl _) (fun hm => ?_) (fun j _ => rfl) _
      simp only [Value.ownBlock, Option.toList, List.mem_cons, List.not_mem_nil, or_false] at hm
      rcases hm with h | h | h
      · omega
      · omega
      · rcases hwh with h2 | h2
        · have := hown' g h2
          omega
        · have h3 : w7.drew.heap.size = w7.heap.size := rfl
          have := hbk.lt
          omega
  · have h1 := (hgrow.row T7 (fun h => (hNdo bt h).2 rfl)).set 2 (.slice (some ⟨g, 0, none⟩) (k + 1) cap')
    refine h1.congr (fun j hj => ?_)
    match j, hj with
    | 0, _ => rfl
    | 1, _ => rfl
    | 2, _ => rfl
    | 3, _ => rfl
  · have h1 := hset.owns hown (fun x hx => by
      have : x = g := by simpa [Value.ownBlock] using hx.symm
      simp; omega)
    have h2 : (pl.take (k + 1)).flatMap (resCells cu ty po vs') = (pl.take k).flatMap (resCells cu ty po vs) ++ [.string (nm i), .string (ty i), .bool (cu i), .slice (some ⟨bk, 0, none⟩) ll ll, .string (po i)] := by
      rw [htk1, List.flatMap_append]
      congr 1
      · refine flat_congr (fun x hx => ?_)
        have hxi : x ≠ i := fun e => hit (e ▸ hx)
        simp [resCells, hvs', hxi]
      · simp [resCells, hvs']
    rw [h2]
    exact h1

set_option maxRecDepth 100000 in
set_option maxHeartbeats 3200000 in
theorem res_any (F : Interp) (a : Addr) (s : ByteArray) (bt mr n : Nat) (deps : Nat → List Nat) (cu : Nat → Bool) (ty po : Nat → ByteArray) (ws : Nat → Value) (N : Nat → Nat → Bool) (w : World) (hF : F.answers w.tape) (hse : Sent w a s)
    (ht : Tmpl w bt mr n deps cu ty po ws) (hN : (ord deps n).length = n → ∀ i, i < n → ∀ j, N i j = row cu n N (deps i) j) :
    Calls Ybaf.prog 5 #[.pointer (some ⟨bt, 0, none⟩)] w (ResEnd w bt mr n deps cu ty po N a) := by
  have HSE := hidE hse
  have HF := hidE hF
  have HT := hidE ht
  have HN := hidE hN
  have hn := ht.hn
  have hmd := ht.map
  have hbt : bt < w.heap.size := ht.tmpl.lt
  have hmr : mr < w.heap.size := hmd.lt
  have hc1 : w.cell? ⟨bt, 1, none⟩ = some (.map (some mr)) := ht.tmpl.cell (by omega)
  clear hF hse ht hN
  obtain ⟨L, hLe⟩ : ∃ L, L = named (List.range n) (resV cu ty po ws) := ⟨_, rfl⟩
  rw [← hLe] at hmd
  have hL : L.length = n := by rw [hLe]; simp [named]
  have HLE := hidE hLe
  clear hLe
  have hlen := fun ty => len_map (P := Ybaf.prog) w 28 9 39 ty Ybaf.underlying28 mr L hmd
  rw [hL] at hlen
  have hmm := fun wx => makeMap_sized (P := Ybaf.prog) 49 9 34 Ybaf.underlying49 n wx
  have hrg := run_range_map (P := Ybaf.prog) (w.alloc (.map #[] 0)) 28 9 39 mr (ents L 0).toArray L.length Ybaf.underlying28 (hmd.alloc _).1
  rw [hL] at hrg
  obtain ⟨wz, hwz⟩ : ∃ wz, wz = (w.alloc (.map #[] 0)).alloc (.mapIter (some mr) n #[] n) := ⟨_, rfl⟩
  have h1 : Hid (StrMap wz w.heap.size (named [] ws)) := by rw [hwz]; exact (strMap_made w).alloc _
  have h2 : Hid (wz.heap[w.heap.size + 1]? = some (.mapIter (some mr) n #[] n)) := by
    rw [hwz]
    have := heap_alloc_new (w.alloc (.map #[] 0)) (.mapIter (some mr) n #[] n)
    rwa [show (w.alloc (.map #[] 0)).heap.size = w.heap.size + 1 from Array.size_push _] at this
  have h4 : Hid (Below w.heap.size w wz) := by
    rw [hwz]
    have b1 := (Below.refl w.heap.size w).alloc (Nat.le_refl _) (.map #[] 0)
    exact b1.alloc b1.size _
  have HMD := hidE hmd
  clear hmd
  go_enter Ybaf.func5, Ybaf.ntmps5
  go_wp2_with fail
  rw [← hwz]
  clear hrg hlen hwz hc1
  go_loopw [4] (fun _ wr => ∃ seen : List Nat, seen.length ≤ n ∧ Hid (seen.Nodup ∧ ∀ x ∈ seen, x < n) ∧ Hid (StrMap wr w.heap.size (named seen ws)) ∧ Hid (wr.heap[w.heap.size + 1]? = some (.mapIter (some mr) n seen.toArray n)) ∧ Hid (Below w.heap.size w wr)) (fun _ wr => itLeft n (w.heap.size + 1) wr)
  case atStart => exact ⟨[], by simp, ⟨List.nodup_nil, by simp⟩, h1, h2, h4⟩
  case round =>
    clear h1 h2 h4
    obtain ⟨seen, hsl, hsn, h1, h2, h4⟩ := hrel
    have h3 : StrMap wr mr L := HMD.out.of_block (h4.out.block _ hmr)
    have hn2 := run_next_str (P := Ybaf.prog) wr 0 (w.heap.size + 1) mr L seen.toArray (by rw [hL]; exact h2.out) h3
    rcases hn2 with ⟨hall, hnx⟩ | ⟨i, hi, q, hni, hnx⟩
    · rw [hL] at hall
      have hps : seen.Perm (List.range n) := seen_all hsn.out.1 hsn.out.2 (fun i hi => by simpa using hall i hi)
      have hord := order_any F a s w.heap.size n seen deps ws wr (by rw [h4.out.tape]; exact HF.out) (HSE.out.below h4.out) h1.out hps hn (fun i hi => ((HT.out.names i hi).kept (Below.kept h4.out []) (by simp)).names) HT.out.dlow HT.out.dlen
      go_wp2_with fail
      refine hord.mono ?_
      rintro e w2 ⟨hb2, hcase⟩
      have HB2 : Hid (Below w.heap.size w w2) := h4.out.trans ⟨hb2.os, hb2.tape, hb2.output, hb2.size, fun k hk => hb2.block k (Nat.lt_of_lt_of_le hk h4.out.size)⟩
      have HW2 : Hid (StrMap w2 w.heap.size (named seen ws)) := h1.out.of_block (hb2.block _ h1.out.lt)
      have HPS := hidE hps
      clear hord hb2 h1 h2 h3 h4 hall hnx hps hsn hsl
      rcases hcase with ⟨hlt, k, rfl, hk, hck⟩ | ⟨hroad, hfull, b, c, rfl, hrow⟩
      · have HE : Hid (ResEnd w bt mr n deps cu ty po N a (.returned (.iface 77 (.pointer (some ⟨k, 0, none⟩)))) w2) := .inl ⟨hlt, HB2.out, k, rfl, hk, hck⟩
        clear hck hmm
        go_wp2_with fail
        go_ret
        exact HE.out
      · have HROW := hidE hrow
        have HROAD := hidE hroad
        have HFULL := hidE hfull
        clear hrow hroad hfull
        obtain ⟨w3, hw3⟩ : ∃ w3, w3 = w2.alloc (.map #[] 0) := ⟨_, rfl⟩
        have hsz3 : w3.heap.size = w2.heap.size + 1 := by rw [hw3]; exact Array.size_push _
        have B3 : Hid (Below w.heap.size w w3) := by rw [hw3]; exact HB2.out.alloc HB2.out.size _
        have W3 : Hid (StrMap w3 w.heap.size (named seen ws)) := by rw [hw3]; exact HW2.out.alloc _
        have R3 : Hid (w3.rowIs b 9 n fun j => Value.string (nm ((ord deps n).getD j 0))) := by rw [hw3]; exact HROW.out.alloc _
        have hbne : b < w2.heap.size := HROW.out.lt
        have hwlt : w.heap.size < w2.heap.size := HW2.out.lt
        have T3 : Hid (w3.rowIs bt 33 4 (tmplF mr (.slice none 0 0))) := HT.out.tmpl.of_block (B3.out.block _ hbt)
        have r0 : Hid (ResAt w3 w3 bt mr w2.heap.size n 0 (ord deps n) cu ty po N ws (.slice none 0 0)) := ⟨Kept.refl _ _, by rw [hw3]; exact strMap_made w2, by simp, T3.out, World.ownsRow_nil _ _ _ _⟩
        have hb0 : b ≠ bt := fun e => by
          obtain ⟨cs, h1, _⟩ := R3.out
          obtain ⟨ct, h2, _⟩ := T3.out
          rw [e, h2] at h1
          injection h1 with h1
          injection h1 with _ h1
          exact absurd h1 (by decide)
        go_wp2_with fail
        rw [← hw3]
        clear hmm hw3 HB2 HW2 HROW
        generalize w2.heap.size = Nd at *
        obtain ⟨pl, hpl⟩ : ∃ pl, pl = ord deps n := ⟨_, rfl⟩
        rw [← hpl] at r0 R3 HROAD HFULL HN
        have HPE := hidE hpl
        clear hpl
        go_loopw [50] (fun s50 wr => ∃ (k : Nat) (vs : Nat → Value) (v : Value), k ≤ n ∧ s50 = .int .i64 k ∧ Hid (ResAt w3 wr bt mr Nd n k pl cu ty po N vs v)) (fun s50 _ => n - (intOf s50).toNat)
        case atStart => exact ⟨0, ws, _, by omega, rfl, r0⟩
        case round =>
          clear r0
          obtain ⟨k, vs, v, hk, rfl, r0⟩ := hrel
          obtain ⟨wk, hwk⟩ : ∃ wk, wk = wr := ⟨_, rfl⟩
          subst hwk
          have KK : Hid (Kept [bt, Nd] w wk) := (Below.kept B3.out [bt, Nd]).then r0.out.kept
          by_cases hkn : k < n
          · obtain ⟨i, hik⟩ : ∃ i, i = pl.getD k 0 := ⟨_, rfl⟩
            have hkl : k < pl.length := by rw [HFULL.out]; exact hkn
            have hipl : i ∈ pl := by rw [hik]; simp [List.getElem?_eq_getElem hkl]
            have hin : i < n := HROAD.out.low i hipl
            have hid : pl[k] = i := by rw [hik]; simp [List.getElem?_eq_getElem hkl]
            have hcn : wk.cell? ⟨b, k, none⟩ = some (.string (nm i)) := by
              rw [(r0.out.kept.row R3.out (by simp; omega)).cell hkn, ← hik]
            obtain ⟨aw, cw, hws, hcw⟩ := HT.out.names i hin
            have WR : Hid (StrMap wk w.heap.size (named seen ws)) := r0.out.kept.strMap W3.out (by simp; omega)
            have hlkw := run_lookup_str (P := Ybaf.prog) (wk.alloc (.map #[] 0)) 49 9 34 Ybaf.underlying49 Ybaf.underlying9 w.heap.size _ (WR.out.alloc _) (nm i) _ (zero34 _)
            rw [getM_named _ (by omega) seen (fun x hx => by have := List.mem_range.1 (HPS.out.mem_iff.1 hx); omega), if_pos (HPS.out.mem_iff.2 (List.mem_range.2 hin)), Option.getD_some, hws] at hlkw
            have HCW : Hid (deps i ≠ [] → ∃ bw ow, aw = some ⟨bw, ow, none⟩ ∧ bw < w.heap.size ∧ bw ∉ [bt] ∧ ∀ j, j < (deps i).length → w.cell? ⟨bw, ow + j, none⟩ = some (enS ((deps i).getD j 0))) := hcw
            have HWS := hidE hws
            have HIK := hidE hik
            have HID := hidE hid
            obtain ⟨w4, hw4⟩ : ∃ w4, w4 = wk.alloc (.map #[] 0) := ⟨_, rfl⟩
            have s0 : Hid (SetAt w4 w4 wk.heap.size n [] (fun x => x < n ∧ row cu n N ((deps i).take 0) x = true)) := ⟨List.nodup_nil, by simp [row], by simp, by rw [hw4]; exact strMap_made wk, Kept.refl _ _⟩
            have K4 : Hid (Kept [bt, Nd] w3 w4) := by rw [hw4]; exact r0.out.kept.alloc _
            rw [← hw4] at hlkw
            have HW4 := hidE hw4
            have hdl := HT.out.dlen i hin
            have hm0 : (Instr.makeMap 52 none).run Ybaf.prog wk = .ok (.map (some wk.heap.size)) w4 := by rw [hw4]; rfl
            clear hws hcw hik hid hw4 WR
            go_wp2_with fail
            clear hm0 hlkw hcn
            go_loopw [59] (fun s59 wx => ∃ (j : Nat) (q : List Nat), j ≤ (deps i).length ∧ s59 = .int .i64 j ∧ Hid (SetAt w4 wx wk.heap.size n q (fun x => x < n ∧ row cu n N ((deps i).take j) x = true))) (fun s59 _ => (deps i).length - (intOf s59).toNat)
            case atStart => exact ⟨0, [], by omega, rfl, s0⟩
            case round =>
              clear s0
              obtain ⟨j, q, hj, rfl, s0⟩ := hrel
              by_cases hjl : j < (deps i).length
              · have BR : Hid (Below wk.heap.size wk wr) := by
                  have h1 : Below wk.heap.size w4 wr := s0.out.kept.below (by rw [HW4.out]; simp) (by simp)
                  have h2 : Below wk.heap.size wk w4 := by rw [HW4.out]; exact (Below.refl _ _).alloc (Nat.le_refl _) _
                  exact h2.trans h1
                have KR : Hid (Kept [bt, Nd] w wr) := KK.out.then (Below.kept BR.out _)
                obtain ⟨d, hd⟩ : ∃ d, d = (deps i).getD j 0 := ⟨_, rfl⟩
                have hdm : d ∈ deps i := by rw [hd]; simp [List.getElem?_eq_getElem hjl]
                have hd6 : d < 676 := HT.out.dlow i hin d hdm
                obtain ⟨bw, ow, haw, hbw, hbne2, hcs⟩ := HCW.out (fun h => by rw [h] at hjl; simp at hjl)
                subst haw
                have hcd : wr.cell? ⟨bw, ow + j, none⟩ = some (.string (nm d)) := by
                  rw [KR.out.cell hbw (by simp at hbne2 ⊢; omega), hcs j hjl, ← hd]; rfl
                have htc : wr.cell? ⟨bt, 1, none⟩ = some (.map (some mr)) := (r0.out.tmpl.of_block (BR.out.block _ r0.out.tmpl.lt)).cell (by omega)
                have hlkr := run_lookup_str (P := Ybaf.prog) wr 28 9 39 Ybaf.underlying28 Ybaf.underlying9 mr L (KR.out.strMap HMD.out (by have := HT.out.ne; simp; omega)) (nm d) _ (zero39 _)
                rw [HLE.out, getM_named _ hd6 _ (fun x hx => by have := List.mem_range.1 hx; omega)] at hlkr
                have htk : (deps i).take (j + 1) = (deps i).take j ++ [d] := by
                  rw [List.take_add_one, List.getElem?_eq_getElem hjl, hd, List.getD_eq_getElem?_getD, List.getElem?_eq_getElem hjl]; rfl
                have HTK := hidE htk
                have HD := hidE hd
                clear hcs htk hd
                by_cases hcust : d < n ∧ cu d = true
                · obtain ⟨hdn, hcu⟩ := hcust
                  rw [if_pos (List.mem_range.2 hdn), Option.getD_some] at hlkr
                  unfold resV at hlkr
                  rw [hcu] at hlkr
                  have HCU := hidE hcu
                  have hmu := s0.out.upd hn hdn
                  clear hcu
                  have hfl := hidE (fun wx => field39 (.string (ty d)) (.bool true) (.string (po d)) .nilIface (.slice none 0 0) (ws d) wx)
                  go_wp2_with (first | (refine wpList_field_run _ rfl (.tmp 68) 39 1 rfl _ _ rfl (hfl.out _) ?_))
                  go_roundw
                  case rel => exact ⟨j + 1, addQ q d, by omega, by go_num, s0.out.add hn hdn (fun x => by rw [HTK.out]; exact mem_cust hdn HCU.out x)⟩
                  case measure => simp [intOf]; omega
                · obtain ⟨c0, c2, c3, c4, c5, hlk2⟩ : ∃ c0 c2 c3 c4 c5, (Instr.lookup 28 (.map (some mr)) (.string (nm d)) false).run Ybaf.prog wr = .ok (.agg #[c0, .bool false, c2, c3, c4, c5]) wr := by
                    by_cases hdn : d < n
                    · rw [if_pos (List.mem_range.2 hdn), Option.getD_some] at hlkr
                      unfold resV at hlkr
                      rw [show cu d = false from by cases h : cu d with | false => rfl | true => exact absurd ⟨hdn, h⟩ hcust] at hlkr
                      exact ⟨_, _, _, _, _, hlkr⟩
                    · rw [if_neg (fun h => hdn (List.mem_range.1 h)), Option.getD_none] at hlkr
                      exact ⟨_, _, _, _, _, hlkr⟩
                  clear hlkr
                  have hlkn := run_lookup_str (P := Ybaf.prog) wr 49 9 34 Ybaf.underlying49 Ybaf.underlying9 Nd _ (r0.out.map.of_block (BR.out.block _ r0.out.map.lt)) (nm d) _ (zero34 _)
                  rw [getM_named _ hd6 _ (fun x hx => by have := HROAD.out.low x (List.mem_of_mem_take hx); omega)] at hlkn
                  obtain ⟨av, cv, l, hlk3, hcv, hmem, hll, hl256⟩ : ∃ av cv, ∃ l : List Nat, (Instr.lookup 49 (.map (some Nd)) (.string (nm d)) false).run Ybaf.prog wr = .ok (.slice av l.length cv) wr ∧ (l ≠ [] → ∃ b off, av = some ⟨b, off, none⟩ ∧ b < wk.heap.size ∧ ∀ j, j < l.length → wk.cell? ⟨b, off + j, none⟩ = some (.string (nm (l.getD j 0)))) ∧ (∀ x, (x < n ∧ row cu n N ((deps i).take (j + 1)) x = true) ↔ (x < n ∧ row cu n N ((deps i).take j) x = true) ∨ x ∈ l) ∧ (∀ x ∈ l, x < n) ∧ l.length ≤ 256 := by
                    by_cases hdn : d < n
                    · have hdt : d ∈ pl.take k := HROAD.out.after k hkl d (by rw [HID.out]; exact hdm) hdn
                      rw [if_pos hdt, Option.getD_some] at hlkn
                      obtain ⟨av, cv, hvs, hcv⟩ := r0.out.rows d hdt
                      rw [hvs] at hlkn
                      refine ⟨av, cv, lst n (N d), hlkn, fun hne => ?_, fun x => ?_, fun x hx => (mem_lst.1 hx).1, by have := lst_le n (N d); omega⟩
                      · obtain ⟨b', off', h1, h2, _, h3⟩ := hcv hne
                        exact ⟨b', off', h1, h2, h3⟩
                      · rw [HTK.out]
                        exact mem_rest hdn (by cases h : cu d with | false => rfl | true => exact absurd ⟨hdn, h⟩ hcust) x
                    · rw [if_neg (fun h => hdn (HROAD.out.low d (List.mem_of_mem_take h))), Option.getD_none] at hlkn
                      exact ⟨none, 0, [], hlkn, fun h => absurd rfl h, fun x => by rw [HTK.out]; exact mem_far hdn x, by simp, by simp⟩
                  have HCV := hidE hcv
                  have HMEM := hidE hmem
                  have HLL := hidE hll
                  have hfl := hidE (fun wx => field39 c0 (.bool false) c2 c3 c4 c5 wx)
                  have BK : Hid (Below wk.heap.size wk w4) := by rw [HW4.out]; exact (Below.refl _ _).alloc (Nat.le_refl _) _
                  have hz4 : wk.heap.size ≤ w4.heap.size := BK.out.size
                  clear hlkn hcust hcv hmem hll
                  go_wp2_with (first | (refine wpList_field_run _ rfl (.tmp 68) 39 1 rfl _ _ rfl (hfl.out _) ?_))
                  clear hlk2 hlk3 hcd htc BR KR
                  have s1 : Hid (SetAt w4 wr wk.heap.size n q (fun x => (x < n ∧ row cu n N ((deps i).take j) x = true) ∨ x ∈ l.take 0)) := ⟨s0.out.nodup, fun x => by rw [s0.out.mem]; simp, s0.out.low, s0.out.map, s0.out.kept⟩
                  go_loopw [76] (fun s76 wx => ∃ (m : Nat) (q : List Nat), m ≤ l.length ∧ s76 = .int .i64 m ∧ Hid (SetAt w4 wx wk.heap.size n q (fun x => (x < n ∧ row cu n N ((deps i).take j) x = true) ∨ x ∈ l.take m))) (fun s76 _ => l.length - (intOf s76).toNat)
                  case atStart => exact ⟨0, q, by omega, rfl, s1⟩
                  case round =>
                    clear s0 s1
                    obtain ⟨m, q, hm, rfl, s0⟩ := hrel
                    by_cases hml : m < l.length
                    · obtain ⟨bv, ov, hav, hbv, hcs⟩ := HCV.out (fun h => by rw [h] at hml; simp at hml)
                      subst hav
                      obtain ⟨d2, hd2⟩ : ∃ d2, d2 = l.getD m 0 := ⟨_, rfl⟩
                      have hd2m : d2 ∈ l := by rw [hd2]; simp [List.getElem?_eq_getElem hml]
                      have hd2n : d2 < n := HLL.out d2 hd2m
                      have BR : Below wk.heap.size wk wr := BK.out.trans (s0.out.kept.below hz4 (by simp))
                      have hcx : wr.cell? ⟨bv, ov + m, none⟩ = some (.string (nm d2)) := by
                        rw [BR.cell hbv, hcs m hml, ← hd2]
                      have htk2 : l.take (m + 1) = l.take m ++ [d2] := by
                        rw [List.take_add_one, List.getElem?_eq_getElem hml, hd2, List.getD_eq_getElem?_getD, List.getElem?_eq_getElem hml]; rfl
                      have HTK2 := hidE htk2
                      have hmu := s0.out.upd hn hd2n
                      clear hcs htk2 hd2 BR
                      go_wp2_with fail
                      go_roundw
                      case rel => exact ⟨m + 1, addQ q d2, by omega, by go_num, s0.out.add hn hd2n (fun x => by rw [HTK2.out]; simp [or_assoc])⟩
                      case measure => simp [intOf]; omega
                    · have hme : m = l.length := by omega
                      subst hme
                      go_wp2_with fail
                      go_roundw
                      case rel => exact ⟨j + 1, q, by omega, by go_num, s0.out.nodup, fun x => by rw [s0.out.mem, HMEM.out, List.take_length], s0.out.low, s0.out.map, s0.out.kept⟩
                      case measure => simp [intOf]; omega
              · have hje : j = (deps i).length := by omega
                subst hje
                have hqp : q.Perm (lst n (N i)) := lst_perm s0.out.nodup (fun x => by rw [s0.out.mem, List.take_length, ← HN.out HFULL.out i hin x])
                have hkeys := keys_any wk.heap.size (named q fun _ => .bool true) q (lst n (N i)) wr s0.out.map (by simp [named]) hqp (lst_sorted n (N i)) (fun x hx => by have := (mem_lst.1 hx).1; omega) (by have h1 := hqp.length_eq; have h2 := lst_le n (N i); simp [named]; omega)
                have BK : Hid (Below wk.heap.size wk w4) := by rw [HW4.out]; exact (Below.refl _ _).alloc (Nat.le_refl _) _
                have BR : Hid (Below wk.heap.size wk wr) := BK.out.trans (s0.out.kept.below BK.out.size (by simp))
                go_wp2_with fail
                refine hkeys.mono ?_
                rintro e w5 ⟨bk, rfl, hbk, hbk2, hb5⟩
                have B5 : Hid (Below wk.heap.size wk w5) := BR.out.trans ⟨hb5.os, hb5.tape, hb5.output, hb5.size, fun x hx => hb5.block x (Nat.lt_of_lt_of_le hx BR.out.size)⟩
                have hbk3 : wk.heap.size ≤ bk := Nat.le_trans BR.out.size hbk2
                have HBK := hidE hbk
                clear hkeys hb5 s0 hqp BR hbk
                obtain ⟨ll, hll⟩ : ∃ ll, ll = (lst n (N i)).length := ⟨_, rfl⟩
                rw [← hll]
                have HLL := hidE hll
                obtain ⟨vs', hvs'⟩ : ∃ vs' : Nat → Value, vs' = fun x => if x = i then .slice (some ⟨bk, 0, none⟩) ll ll else vs x := ⟨_, rfl⟩
                have hit : i ∉ pl.take k := fun h => by
                  obtain ⟨m, hm, hmk, e⟩ := take_mem h
                  have := nodup_at HROAD.out.nodup hm hkl (e.trans HID.out.symm)
                  omega
                have htk1 : pl.take (k + 1) = pl.take k ++ [i] := by
                  rw [List.take_add_one, List.getElem?_eq_getElem hkl, HID.out]; rfl
                have hlow : ∀ x ∈ pl.take k, x < 676 := fun x hx => by have := HROAD.out.low x (List.mem_of_mem_take hx); omega
                have M5 : StrMap w5 Nd (named (pl.take k) vs) := r0.out.map.of_block (B5.out.block _ r0.out.map.lt)
                have hset : setM (named (pl.take k) vs) (nm i) (.slice (some ⟨bk, 0, none⟩) ll ll) = named (pl.take (k + 1)) vs' := by
                  rw [setM_new (by rw [getM_named _ (by omega) _ hlow, if_neg hit]), htk1, hvs']
                  unfold named
                  rw [List.map_append]
                  congr 1
                  · refine List.map_congr_left (fun x hx => ?_)
                    simp [show x ≠ i from fun e => hit (e ▸ hx)]
                  · simp
                have hmu := run_mapUpdate_str (P := Ybaf.prog) w5 49 9 34 Ybaf.underlying49 Ybaf.underlying9 Nd _ M5 (nm i) (.slice (some ⟨bk, 0, none⟩) ll ll)
                have M6 := M5.put (nm i) (.slice (some ⟨bk, 0, none⟩) ll ll)
                rw [hset] at hmu M6
                obtain ⟨w6, hw6⟩ : ∃ w6, w6 = World.putObj w5 Nd (mapObj (named (pl.take (k + 1)) vs')) := ⟨_, rfl⟩
                rw [← hw6] at hmu M6
                have K6 : Hid (Kept [Nd] wk w6) := by
                  rw [hw6]
                  exact (Below.kept B5.out [Nd]).putObj (fun _ => by simp) _
                have Nlt : Nd < wk.heap.size := r0.out.map.lt
                have K56 : Hid (Kept [Nd] w5 w6) := by rw [hw6]; exact (Kept.refl _ _).putObj (fun _ => by simp) _
                have L6 : Hid (StrMap w6 mr L) := K6.out.strMap (KK.out.strMap HMD.out (by have := HT.out.ne; simp; omega)) (by simp; omega)
                have hlr := run_lookup_str (P := Ybaf.prog) w6 28 9 39 Ybaf.underlying28 Ybaf.underlying9 mr L L6.out (nm i) _ (zero39 _)
                rw [HLE.out, getM_named _ (by omega) _ (fun x hx => by have := List.mem_range.1 hx; omega), if_pos (List.mem_range.2 hin), Option.getD_some] at hlr
                unfold resV at hlr
                rw [HWS.out] at hlr
                have T6 : Hid (w6.rowIs bt 33 4 (tmplF mr v)) := K6.out.row r0.out.tmpl (by simp; omega)
                have hct : w6.cell? ⟨bt, 1, none⟩ = some (.map (some mr)) := T6.out.cell (by omega)
                have M6' := hidE M6
                clear hset M5 M6 hw6 hll hlow
                obtain ⟨w7, hw7⟩ : ∃ w7, w7 = w6.alloc (.cells #[.string (ty i), .bool (cu i), .string (po i), .nilIface, .slice none 0 0, .slice aw (deps i).length cw] 39) := ⟨_, rfl⟩
                have hn7 := World.news_of_block (show w7.heap[w6.heap.size]? = _ from by rw [hw7]; exact heap_alloc_new w6 _)
                have c70 : w7.cell? ⟨w6.heap.size, 0, none⟩ = some (.string (ty i)) := hn7 0 _ rfl
                have c71 : w7.cell? ⟨w6.heap.size, 1, none⟩ = some (.bool (cu i)) := hn7 1 _ rfl
                have c72 : w7.cell? ⟨w6.heap.size, 2, none⟩ = some (.string (po i)) := hn7 2 _ rfl
                have K7 : Hid (Kept [] w6 w7) := by rw [hw7]; exact (Kept.refl _ _).alloc _
                have T7 : Hid (w7.rowIs bt 33 4 (tmplF mr v)) := K7.out.row T6.out (by simp)
                have c7v : w7.cell? ⟨bt, 2, none⟩ = some v := T7.out.cell (by omega)
                have M7 : Hid (StrMap w7 Nd (named (pl.take (k + 1)) vs')) := K7.out.strMap M6'.out (by simp)
                have hln := run_lookup_str (P := Ybaf.prog) w7.drew 49 9 34 Ybaf.underlying49 Ybaf.underlying9 Nd _ M7.out (nm i) _ (zero34 _)
                rw [getM_named _ (by omega) _ (fun x hx => by have := HROAD.out.low x (List.mem_of_mem_take hx); omega), if_pos (by rw [htk1]; simp), Option.getD_some, show vs' i = .slice (some ⟨bk, 0, none⟩) ll ll from by rw [hvs']; simp] at hln
                have O7 : Hid (w7.ownsRow w3.heap.size 47 5 v k ((pl.take k).flatMap (resCells cu ty po vs))) := by
                  have h1 : Kept [Nd] wk w7 := K6.out.then (K7.out.mono (by simp))
                  exact h1.owns r0.out.owns (fun x hx => by have := (r0.out.owns.lt x hx).1; simp; omega)
                obtain ⟨g, cap', w8, hap, hown, hgr, hbg, hglt, hwh⟩ := append_own (P := Ybaf.prog) 30 47 _ 5 80 Ybaf.underlying30 info47 rfl (by omega) w7.drew w3.heap.size v k _ O7.out [.string (nm i), .string (ty i), .bool (cu i), .slice (some ⟨bk, 0, none⟩) ll ll, .string (po i)] rfl (by simp; exact ⟨rfl, rfl, rfl, rfl, rfl⟩) (by omega) (by omega) (by have h1 := r0.out.kept.size; have h2 := K6.out.size; have h3 := K7.out.size; show w3.heap.size ≤ w7.heap.size; omega)
                have HAP := hidE hap
                have HOWN := hidE hown
                have HGR := hidE hgr
                have T8 : w8.rowIs bt 33 4 (tmplF mr v) := (T7.out.drew.alloc _).of_block (hgr.block bt (T7.out.drew.alloc _).lt (fun e => by have := (r0.out.owns.lt bt e.symm).1; omega))
                obtain ⟨u8, hu8⟩ : ∃ u8, w8.cell? ⟨bt, 2, none⟩ = some u8 := ⟨_, T8.cell (by omega)⟩
                have hf8 : w8.frozen? ⟨bt, 2, none⟩ = false := T8.frozen _
                have c7v1 : (w7.alloc (.cells #[.string (nm i), .string (ty i), .bool (cu i), .slice (some ⟨bk, 0, none⟩) ll ll, .string (po i)] 47)).cell? ⟨bt, 2, none⟩ = some v := (T7.out.alloc _).cell (by omega)
                have hap2 : ∀ ty2, (Builtin.append_ #[30, 30] ty2 #[v, .slice (some ⟨w7.heap.size, 0, none⟩) 1 1]).run Ybaf.prog (w7.drew.alloc (.cells #[.string (nm i), .string (ty i), .bool (cu i), .slice (some ⟨bk, 0, none⟩) ll ll, .string (po i)] 47)) = .ok (.slice (some ⟨g, 0, none⟩) (k + 1) cap') w8 := hap
                have RS := hidE (r0.out.step (by omega) hsz3 B5.out K56.out K7.out M7.out T7.out HBK.out hbk3 HLL.out hvs' hit htk1 hown hgr hbg hwh)
                have HW7 := hidE hw7
                have HVS := hidE hvs'
                have HTK1 := hidE htk1
                clear hap hown hgr hn7 hvs' htk1
                go_wp2_with fail
                rw [← hw7]
                clear hw7 hlr hmu hct
                generalize w6.heap.size = B6 at *
                obtain ⟨vals, hvals⟩ : ∃ vals : List Value, vals = [(.pointer (some ⟨bt, 0, none⟩)), (.pointer (some ⟨bt, 0, none⟩)), (.pointer (some ⟨bt, 0, none⟩)), (.pointer (some ⟨bt, 2, none⟩)), v, (.string (nm i)), (.pointer (some ⟨B6, 0, none⟩)), (.string (ty i)), (.pointer (some ⟨B6, 1, none⟩)), (.bool (cu i)), (.map (some Nd)), (.string (nm i)), (.slice (some ⟨bk, 0, none⟩) ll ll), (.pointer (some ⟨B6, 2, none⟩)), (.string (po i)), (.agg #[.string (nm i), .string (ty i), .bool (cu i), (.slice (some ⟨bk, 0, none⟩) ll ll), .string (po i)]), (.slice (some ⟨w7.heap.size, 0, none⟩) 1 1), (.slice (some ⟨g, 0, none⟩) (k + 1) cap'), (.pointer (some ⟨bt, 0, none⟩)), (.pointer (some ⟨bt, 2, none⟩)), undef] := ⟨_, rfl⟩
                refine wp_region_inv (by kernel_rfl) (fun j => vals.getD j undef) (Reg27 w7.drew (w7.drew.alloc (.cells #[.string (nm i), .string (ty i), .bool (cu i), .slice (some ⟨bk, 0, none⟩) ll ll, .string (po i)] 47)) w8 (w8.setCell ⟨bt, 2, none⟩ (.slice (some ⟨g, 0, none⟩) (k + 1) cap'))) (by kernel_rfl) (by kernel_rfl) (Reg27.start _ _ _ _ _) ?_ ?_
                · intro listed a w i2 o ho inv hw hs hpre hu
                  subst hvals
                  have hsz : listed.size = 21 := hs
                  match i2, ho, hu with
                  | 0, ho, hu =>
                    have e := Option.some.inj ho
                    subst e
                    have e0 : a.tmps.getD 0 undef = (.pointer (some ⟨bt, 0, none⟩)) := inv.far (s := 0) (by kernel_rfl)
                    exact wp_value (.pointer (some ⟨bt, 0, none⟩)) (by simp [execOp, Act.eval, go_sem, e0]) ⟨rfl, hw.keep (by omega) (by omega) (by omega) (by omega) (by omega)⟩
                  | 1, ho, hu =>
                    have e := Option.some.inj ho
                    subst e
                    have e0 : a.tmps.getD 0 undef = (.pointer (some ⟨bt, 0, none⟩)) := inv.far (s := 0) (by kernel_rfl)
                    exact wp_value (.pointer (some ⟨bt, 0, none⟩)) (by simp [execOp, Act.eval, go_sem, e0]) ⟨rfl, hw.keep (by omega) (by omega) (by omega) (by omega) (by omega)⟩
                  | 2, ho, hu =>
                    have e := Option.some.inj ho
                    subst e
                    have e95 : a.tmps.getD 95 undef = (.pointer (some ⟨bt, 0, none⟩)) := inv.now 95 1 rfl (hpre ⟨1, .data⟩ (by simp) rfl)
                    exact wp_value (.pointer (some ⟨bt, 0, none⟩)) (by simp [execOp, Act.eval, go_sem, e95]) ⟨rfl, hw.keep (by omega) (by omega) (by omega) (by omega) (by omega)⟩
                  | 3, ho, hu =>
                    have e := Option.some.inj ho
                    subst e
                    have e96 : a.tmps.getD 96 undef = (.pointer (some ⟨bt, 0, none⟩)) := inv.now 96 2 rfl (hpre ⟨2, .data⟩ (by simp) rfl)
                    exact wp_value (.pointer (some ⟨bt, 2, none⟩)) (by simp [execOp, Act.eval, go_sem, e96]) ⟨rfl, hw.keep (by omega) (by omega) (by omega) (by omega) (by omega)⟩
                  | 4, ho, hu =>
                    have e := Option.some.inj ho
                    subst e
                    have e97 : a.tmps.getD 97 undef = (.pointer (some ⟨bt, 2, none⟩)) := inv.now 97 3 rfl (hpre ⟨3, .data⟩ (by simp) rfl)
                    have n17 : listed.getD 17 false = false := by
                      cases e : listed.getD 17 false with
                      | false => rfl
                      | true => have h4 := (hw.c17 e).2; rw [hu] at h4; cases h4
                    rcases hw.early n17 with rfl | rfl
                    · exact wp_value v (by simp [execOp, Act.eval, go_sem, e97, c7v]) ⟨rfl, hw.keep (by omega) (by omega) (by omega) (by omega) (by omega)⟩
                    · exact wp_value v (by simp [execOp, Act.eval, go_sem, e97, c7v1]) ⟨rfl, hw.keep (by omega) (by omega) (by omega) (by omega) (by omega)⟩
                  | 5, ho, hu =>
                    have e := Option.some.inj ho
                    subst e
                    have e10 : a.tmps.getD 10 undef = (.string (nm i)) := inv.far (s := 10) (by kernel_rfl)
                    exact wp_value (.string (nm i)) (by simp [execOp, Act.eval, go_sem, e10]) ⟨rfl, hw.keep (by omega) (by omega) (by omega) (by omega) (by omega)⟩
                  | 6, ho, hu =>
                    have e := Option.some.inj ho
                    subst e
                    have e16 : a.tmps.getD 16 undef = (.pointer (some ⟨B6, 0, none⟩)) := inv.far (s := 16) (by kernel_rfl)
                    exact wp_value (.pointer (some ⟨B6, 0, none⟩)) (by simp [execOp, Act.eval, go_sem, e16]) ⟨rfl, hw.keep (by omega) (by omega) (by omega) (by omega) (by omega)⟩
                  | 7, ho, hu =>
                    have e := Option.some.inj ho
                    subst e
                    have e100 : a.tmps.getD 100 undef = (.pointer (some ⟨B6, 0, none⟩)) := inv.now 100 6 rfl (hpre ⟨6, .data⟩ (by simp) rfl)
                    have n15 : listed.getD 15 false = false := by
                      cases e : listed.getD 15 false with
                      | false => rfl
                      | true => have h4 := (hw.c15 e).1; rw [hu] at h4; cases h4
                    obtain rfl := hw.pure n15
                    exact wp_value (.string (ty i)) (by simp [execOp, Act.eval, go_sem, e100, c70]) ⟨rfl, hw.keep (by omega) (by omega) (by omega) (by omega) (by omega)⟩
                  | 8, ho, hu =>
                    have e := Option.some.inj ho
                    subst e
                    have e16 : a.tmps.getD 16 undef = (.pointer (some ⟨B6, 0, none⟩)) := inv.far (s := 16) (by kernel_rfl)
                    exact wp_value (.pointer (some ⟨B6, 1, none⟩)) (by simp [execOp, Act.eval, go_sem, e16]) ⟨rfl, hw.keep (by omega) (by omega) (by omega) (by omega) (by omega)⟩
                  | 9, ho, hu =>
                    have e := Option.some.inj ho
                    subst e
                    have e102 : a.tmps.getD 102 undef = (.pointer (some ⟨B6, 1, none⟩)) := inv.now 102 8 rfl (hpre ⟨8, .data⟩ (by simp) rfl)
                    have n15 : listed.getD 15 false = false := by
                      cases e : listed.getD 15 false with
                      | false => rfl
                      | true => have h4 := (hw.c15 e).2.1; rw [hu] at h4; cases h4
                    obtain rfl := hw.pure n15
                    exact wp_value (.bool (cu i)) (by simp [execOp, Act.eval, go_sem, e102, c71]) ⟨rfl, hw.keep (by omega) (by omega) (by omega) (by omega) (by omega)⟩
                  | 10, ho, hu =>
                    have e := Option.some.inj ho
                    subst e
                    have e8 : a.tmps.getD 8 undef = (.map (some Nd)) := inv.far (s := 8) (by kernel_rfl)
                    exact wp_value (.map (some Nd)) (by simp [execOp, Act.eval, go_sem, e8]) ⟨rfl, hw.keep (by omega) (by omega) (by omega) (by omega) (by omega)⟩
                  | 11, ho, hu =>
                    have e := Option.some.inj ho
                    subst e
                    have e10 : a.tmps.getD 10 undef = (.string (nm i)) := inv.far (s := 10) (by kernel_rfl)
                    exact wp_value (.string (nm i)) (by simp [execOp, Act.eval, go_sem, e10]) ⟨rfl, hw.keep (by omega) (by omega) (by omega) (by omega) (by omega)⟩
                  | 12, ho, hu =>
                    have e := Option.some.inj ho
                    subst e
                    have e104 : a.tmps.getD 104 undef = (.map (some Nd)) := inv.now 104 10 rfl (hpre ⟨10, .data⟩ (by simp) rfl)
                    have e105 : a.tmps.getD 105 undef = (.string (nm i)) := inv.now 105 11 rfl (hpre ⟨11, .data⟩ (by simp) rfl)
                    have n15 : listed.getD 15 false = false := by
                      cases e : listed.getD 15 false with
                      | false => rfl
                      | true => have h4 := (hw.c15 e).2.2.1; rw [hu] at h4; cases h4
                    obtain rfl := hw.pure n15
                    exact wp_value (.slice (some ⟨bk, 0, none⟩) ll ll) (by simp [execOp, Act.eval, go_sem, e104, e105, hln]) ⟨rfl, hw.keep (by omega) (by omega) (by omega) (by omega) (by omega)⟩
                  | 13, ho, hu =>
                    have e := Option.some.inj ho
                    subst e
                    have e16 : a.tmps.getD 16 undef = (.pointer (some ⟨B6, 0, none⟩)) := inv.far (s := 16) (by kernel_rfl)
                    exact wp_value (.pointer (some ⟨B6, 2, none⟩)) (by simp [execOp, Act.eval, go_sem, e16]) ⟨rfl, hw.keep (by omega) (by omega) (by omega) (by omega) (by omega)⟩
                  | 14, ho, hu =>
                    have e := Option.some.inj ho
                    subst e
                    have e107 : a.tmps.getD 107 undef = (.pointer (some ⟨B6, 2, none⟩)) := inv.now 107 13 rfl (hpre ⟨13, .data⟩ (by simp) rfl)
                    have n15 : listed.getD 15 false = false := by
                      cases e : listed.getD 15 false with
                      | false => rfl
                      | true => have h4 := (hw.c15 e).2.2.2; rw [hu] at h4; cases h4
                    obtain rfl := hw.pure n15
                    exact wp_value (.string (po i)) (by simp [execOp, Act.eval, go_sem, e107, c72]) ⟨rfl, hw.keep (by omega) (by omega) (by omega) (by omega) (by omega)⟩
                  | 15, ho, hu =>
                    have e := Option.some.inj ho
                    subst e
                    have e99 : a.tmps.getD 99 undef = (.string (nm i)) := inv.now 99 5 rfl (hpre ⟨5, .data⟩ (by simp) rfl)
                    have e101 : a.tmps.getD 101 undef = (.string (ty i)) := inv.now 101 7 rfl (hpre ⟨7, .data⟩ (by simp) rfl)
                    have e103 : a.tmps.getD 103 undef = (.bool (cu i)) := inv.now 103 9 rfl (hpre ⟨9, .data⟩ (by simp) rfl)
                    have e106 : a.tmps.getD 106 undef = (.slice (some ⟨bk, 0, none⟩) ll ll) := inv.now 106 12 rfl (hpre ⟨12, .data⟩ (by simp) rfl)
                    have e108 : a.tmps.getD 108 undef = (.string (po i)) := inv.now 108 14 rfl (hpre ⟨14, .data⟩ (by simp) rfl)
                    have f99 : a.tmps[99]?.getD undef = (.string (nm i)) := by rw [← Array.getD_eq_getD_getElem?]; exact e99
                    have f101 : a.tmps[101]?.getD undef = (.string (ty i)) := by rw [← Array.getD_eq_getD_getElem?]; exact e101
                    have f103 : a.tmps[103]?.getD undef = (.bool (cu i)) := by rw [← Array.getD_eq_getD_getElem?]; exact e103
                    have f106 : a.tmps[106]?.getD undef = (.slice (some ⟨bk, 0, none⟩) ll ll) := by rw [← Array.getD_eq_getD_getElem?]; exact e106
                    have f108 : a.tmps[108]?.getD undef = (.string (po i)) := by rw [← Array.getD_eq_getD_getElem?]; exact e108
                    exact wp_value (.agg #[.string (nm i), .string (ty i), .bool (cu i), (.slice (some ⟨bk, 0, none⟩) ll ll), .string (po i)]) (by simp [execOp, Act.eval, go_sem, f99, f101, f103, f106, f108]) ⟨rfl, hw.s15 hsz (hpre ⟨7, .data⟩ (by simp) rfl) (hpre ⟨9, .data⟩ (by simp) rfl) (hpre ⟨12, .data⟩ (by simp) rfl) (hpre ⟨14, .data⟩ (by simp) rfl)⟩
                  | 16, ho, hu =>
                    have e := Option.some.inj ho
                    subst e
                    have e109 : a.tmps.getD 109 undef = (.agg #[.string (nm i), .string (ty i), .bool (cu i), (.slice (some ⟨bk, 0, none⟩) ll ll), .string (po i)]) := inv.now 109 15 rfl (hpre ⟨15, .data⟩ (by simp) rfl)
                    have f109 : a.tmps[109]?.getD undef = (.agg #[.string (nm i), .string (ty i), .bool (cu i), (.slice (some ⟨bk, 0, none⟩) ll ll), .string (po i)]) := by rw [← Array.getD_eq_getD_getElem?]; exact e109
                    obtain rfl := hw.w0 hu
                    exact wp_value (.slice (some ⟨w7.heap.size, 0, none⟩) 1 1) (by simp [execOp, Act.eval, go_sem, f109]) ⟨rfl, hw.s16 hsz (hpre ⟨15, .data⟩ (by simp) rfl) hu⟩
                  | 17, ho, hu =>
                    have e := Option.some.inj ho
                    subst e
                    have e98 : a.tmps.getD 98 undef = v := inv.now 98 4 rfl (hpre ⟨4, .data⟩ (by simp) rfl)
                    have e110 : a.tmps.getD 110 undef = (.slice (some ⟨w7.heap.size, 0, none⟩) 1 1) := inv.now 110 16 rfl (hpre ⟨16, .data⟩ (by simp) rfl)
                    have h16 := hpre ⟨16, .data⟩ (by simp) rfl
                    obtain rfl := hw.w1 h16 hu
                    exact wp_value (.slice (some ⟨g, 0, none⟩) (k + 1) cap') (by simp [execOp, resolve, invoke, builtin, Act.eval, e98, e110, hap2, Result.andThen]) ⟨rfl, hw.s17 hsz h16 (hpre ⟨4, .data⟩ (by simp) rfl) hu⟩
                  | 18, ho, hu =>
                    have e := Option.some.inj ho
                    subst e
                    have e94 : a.tmps.getD 94 undef = (.pointer (some ⟨bt, 0, none⟩)) := inv.now 94 0 rfl (hpre ⟨0, .data⟩ (by simp) rfl)
                    exact wp_value (.pointer (some ⟨bt, 0, none⟩)) (by simp [execOp, Act.eval, go_sem, e94]) ⟨rfl, hw.keep (by omega) (by omega) (by omega) (by omega) (by omega)⟩
                  | 19, ho, hu =>
                    have e := Option.some.inj ho
                    subst e
                    have e112 : a.tmps.getD 112 undef = (.pointer (some ⟨bt, 0, none⟩)) := inv.now 112 18 rfl (hpre ⟨18, .data⟩ (by simp) rfl)
                    exact wp_value (.pointer (some ⟨bt, 2, none⟩)) (by simp [execOp, Act.eval, go_sem, e112]) ⟨rfl, hw.keep (by omega) (by omega) (by omega) (by omega) (by omega)⟩
                  | 20, ho, hu =>
                    have e := Option.some.inj ho
                    subst e
                    have e113 : a.tmps.getD 113 undef = (.pointer (some ⟨bt, 2, none⟩)) := inv.now 113 19 rfl (hpre ⟨19, .data⟩ (by simp) rfl)
                    have e111 : a.tmps.getD 111 undef = (.slice (some ⟨g, 0, none⟩) (k + 1) cap') := inv.now 111 17 rfl (hpre ⟨17, .data⟩ (by simp) rfl)
                    have h17 := hpre ⟨17, .data⟩ (by simp) rfl
                    obtain rfl := hw.w2 h17 hu
                    exact wp_skip (by simp [execOp, Act.eval, go_sem, e113, e111, hu8, hf8]) ⟨rfl, hw.s20 hsz h17⟩
                  | x + 21, ho, _ => exact absurd (Array.getElem?_eq_some_iff.1 ho).1 (by simp)
                · intro listed w hall hw
                  obtain rfl := hw.w3 (hall 20 (by decide))
                  subst hvals
                  simp only [putAll, Act.put]
                  go_wp2_with fail
                  go_roundw
                  case rel => exact ⟨k + 1, vs', _, by omega, by go_num, RS⟩
                  case measure => simp [intOf]; omega
          · have hke : k = n := by omega
            subst hke
            have HE : Hid (ResEnd w bt mr k deps cu ty po N a (.returned .nilIface) wk) := by
              have hkw : Kept [bt] w wk := by
                have h1 := KK.out
                exact ⟨h1.os, h1.tape, h1.output, h1.size, fun x hx hS => h1.block x hx (by simp at hS ⊢; omega)⟩
              refine .inr ⟨by rw [← HPE.out]; exact HROAD.out, by rw [← HPE.out]; exact HFULL.out, hkw, rfl, v, r0.out.tmpl, ?_⟩
              rw [← HPE.out]
              refine ⟨vs, ⟨r0.out.owns.1, ?_⟩, fun x hx => (r0.out.rows x hx).sub (fun y hy _ => by simp at hy ⊢; exact .inl hy)⟩
              rcases r0.out.owns.2 with h1 | ⟨g, cap, cur, h1, h2, h3⟩
              · exact .inl h1
              · exact .inr ⟨g, cap, cur, h1, by have := B3.out.size; omega, h3⟩
            go_wp2_with fail
            go_ret
            exact HE.out
    · rw [hL] at hnx
      have hin : i < n := by omega
      obtain ⟨aw, cw, hws, _⟩ := HT.out.names i hin
      have hLi : L[i]'hi = (nm i, .agg #[.string (ty i), .bool (cu i), .string (po i), .nilIface, .slice none 0 0, .slice aw (deps i).length cw]) := by
        have hLE := HLE.out
        subst hLE
        rw [named_at, getD_range hin, ← hws]
        rfl
      have hlt2 : seen.length < n := by
        rcases Nat.lt_or_ge seen.length n with h | h
        · exact h
        · exfalso
          have hp2 := seen_full hsn.out.1 hsn.out.2 (by omega) i hin
          exact hni (by simpa using hp2)
      obtain ⟨wy, hwy⟩ : ∃ wy, wy = World.putObj (wr.drewN q) (w.heap.size + 1) (.mapIter (some mr) n (seen.toArray.push i) n) := ⟨_, rfl⟩
      rw [← hwy] at hnx
      have hilt : w.heap.size + 1 < wr.heap.size := (Array.getElem?_eq_some_iff.1 h2.out).1
      have kw : Kept [w.heap.size + 1] wr wy := by
        rw [hwy]
        exact ((Kept.refl _ wr).drewN q).putObj (fun _ => by simp) _
      have g1 : Hid (StrMap wy w.heap.size (named seen ws)) := kw.strMap h1.out (by simp)
      have g2 : wy.heap[w.heap.size + 1]? = some (.mapIter (some mr) n (seen.toArray.push i) n) := by
        rw [hwy]; exact putObj_same (w := wr.drewN q) hilt
      have g3 : StrMap wy mr L := kw.strMap h3 (by simp; omega)
      have g4 : Hid (Below w.heap.size w wy) := h4.out.trans (kw.below h4.out.size (by simp))
      have hent := run_entry_str (P := Ybaf.prog) wy (w.heap.size + 1) mr L seen.toArray i hi (by rw [hL]; exact g2) g3
      rw [hLi] at hent hnx
      have G2 := hidE g2
      have hse2 : i ∉ seen := fun h => hni (by simpa using h)
      have HWS := hidE hws
      have hmu := run_mapUpdate_str (P := Ybaf.prog) (wy.alloc (.cells #[.string (ty i), .bool (cu i), .string (po i), .nilIface, .slice none 0 0, .slice aw (deps i).length cw] 39)) 49 9 34 Ybaf.underlying49 Ybaf.underlying9 w.heap.size _ (g1.out.alloc _) (nm i) (.slice aw (deps i).length cw)
      have hset : setM (named seen ws) (nm i) (.slice aw (deps i).length cw) = named (seen ++ [i]) ws := by
        rw [setM_new (by rw [getM_named _ (by omega) seen (fun x hx => by have := hsn.out.2 x hx; omega), if_neg hse2])]
        simp [named, hws]
      have g5 : Hid (StrMap (World.putObj (wy.alloc (.cells #[.string (ty i), .bool (cu i), .string (po i), .nilIface, .slice none 0 0, .slice aw (deps i).length cw] 39)) w.heap.size (mapObj (named (seen ++ [i]) ws))) w.heap.size (named (seen ++ [i]) ws)) := by
        have := (g1.out.alloc (.cells #[.string (ty i), .bool (cu i), .string (po i), .nilIface, .slice none 0 0, .slice aw (deps i).length cw] 39)).put (nm i) (.slice aw (deps i).length cw)
        rwa [hset] at this
      rw [hset] at hmu
      clear g2 g3 hwy h3 hLi hws hset
      go_wp2_with fail
      go_roundw
      case rel =>
        have k2 : Kept [w.heap.size] wy (World.putObj (wy.alloc (.cells #[.string (ty i), .bool (cu i), .string (po i), .nilIface, .slice none 0 0, .slice aw (deps i).length cw] 39)) w.heap.size (mapObj (named (seen ++ [i]) ws))) := ((Kept.refl _ wy).alloc _).putObj (fun _ => by simp) _
        refine ⟨seen ++ [i], by simp; omega, ⟨?_, ?_⟩, g5, ?_, g4.out.trans (k2.below g4.out.size (by simp))⟩
        · rw [List.nodup_append]
          refine ⟨hsn.out.1, by simp, fun a ha b hb' => ?_⟩
          have : b = i := by simpa using hb'
          subst this
          exact fun e => hse2 (e ▸ ha)
        · intro x hx
          rcases List.mem_append.1 hx with hx | hx
          · exact hsn.out.2 x hx
          · have : x = i := by simpa using hx
            omega
        · refine (k2.block _ (Array.getElem?_eq_some_iff.1 G2.out).1 (by simp)).trans (G2.out.trans ?_)
          simp
      case measure =>
        rw [itLeft_eq h2.out]
        have k2 : Kept [w.heap.size] wy (World.putObj (wy.alloc (.cells #[.string (ty i), .bool (cu i), .string (po i), .nilIface, .slice none 0 0, .slice aw (deps i).length cw] 39)) w.heap.size (mapObj (named (seen ++ [i]) ws))) := ((Kept.refl _ wy).alloc _).putObj (fun _ => by simp) _
        rw [itLeft_eq ((k2.block _ (Array.getElem?_eq_some_iff.1 G2.out).1 (by simp)).trans G2.out)]
        simp
        omega
end Go.Proofs.YbulkcxswFmt
