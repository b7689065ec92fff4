import Derived.Test.YbulkcxswFmtName
import Derived.Laws.IdiomRangeMap
import Derived.Below
namespace Go.Proofs.YbulkcxswFmt
open Go.RowKit Go.Deep Go.MapKept

/-! ### A map from strings, its entries in the order of their birth, nothing ever taken out -/
abbrev SM := List (ByteArray × Value)
def ents : SM → Nat → List MapEntry
  | [], _ => []
  | (k, v) :: r, i => { key := .string k, val := v, born := i } :: ents r (i + 1)
def findM : SM → ByteArray → Nat → Option (Nat × Value)
  | [], _, _ => none
  | (k', v) :: r, k, i => if k = k' then some (i, v) else findM r k (i + 1)
def getM : SM → ByteArray → Option Value
  | [], _ => none
  | (k', v) :: r, k => if k = k' then some v else getM r k
def setM : SM → ByteArray → Value → SM
  | [], k, v => [(k, v)]
  | (k', v') :: r, k, v => if k = k' then (k, v) :: r else (k', v') :: setM r k v

def mapObj (L : SM) : Obj := .map (ents L 0).toArray L.length
def StrMap (w : World) (b : Nat) (L : SM) : Prop := w.heap[b]? = some (mapObj L) ∧ (L.map (·.1)).Nodup

theorem ents_length : ∀ (L : SM) (i : Nat), (ents L i).length = L.length
  | [], _ => rfl
  | (_, _) :: r, i => by simp [ents, ents_length r]
theorem ents_get : ∀ (L : SM) (i j : Nat) (h : j < L.length), (ents L i)[j]? = some { key := .string (L[j]'h).1, val := (L[j]'h).2, born := i + j }
  | (k, v) :: r, i, 0, _ => by simp [ents]
  | (k, v) :: r, i, j + 1, h => by
    have := ents_get r (i + 1) j (by simpa using h)
    simp only [ents, List.getElem?_cons_succ, List.getElem_cons_succ, this]
    congr 2; omega
theorem ents_born : ∀ (L : SM) (i : Nat), (ents L i).map (·.born) = List.range' i L.length
  | [], _ => rfl
  | (_, _) :: r, i => by simp [ents, ents_born r, List.range'_succ]
theorem ents_append (k : ByteArray) (v : Value) : ∀ (L : SM) (i : Nat), ents (L ++ [(k, v)]) i = ents L i ++ [{ key := .string k, val := v, born := i + L.length }]
  | [], i => by simp [ents]
  | (_, _) :: r, i => by
    simp only [ents, List.cons_append, ents_append k v r, List.length_cons]
    congr 4; omega
theorem findNow_ents (k : ByteArray) : ∀ (L : SM) (i j : Nat), Instr.findNow .string (.string k) (ents L i) j = some (findM L k j)
  | [], _, _ => rfl
  | (k', v) :: r, i, j => by
    simp only [ents, Instr.findNow, Instr.sameNow, findM]
    by_cases h : k = k'
    · have : (k == k') = true := (bytes_beq k k').2 h
      rw [this, if_pos h]
    · have : (k == k') = false := by
        rw [Bool.eq_false_iff]; exact fun h' => h ((bytes_beq k k').1 h')
      rw [this, if_neg h]
      exact findNow_ents k r (i + 1) (j + 1)
theorem findM_get (k : ByteArray) : ∀ (L : SM) (j : Nat), (findM L k j).map (·.2) = getM L k
  | [], _ => rfl
  | (k', v) :: r, j => by
    simp only [findM, getM]
    by_cases h : k = k'
    · rw [if_pos h, if_pos h]; rfl
    · rw [if_neg h, if_neg h]; exact findM_get k r (j + 1)
theorem getM_none {k : ByteArray} : ∀ {L : SM}, getM L k = none ↔ k ∉ L.map (·.1)
  | [] => by simp [getM]
  | (k', v) :: r => by
    simp only [getM, List.map_cons, List.mem_cons, not_or]
    by_cases h : k = k'
    · simp [h]
    · rw [if_neg h, getM_none]; simp [h]
theorem setM_new {k : ByteArray} {v : Value} : ∀ {L : SM}, getM L k = none → setM L k v = L ++ [(k, v)]
  | [], _ => rfl
  | (k', v') :: r, h => by
    simp only [getM] at h
    by_cases e : k = k'
    · simp [e] at h
    · rw [if_neg e] at h
      simp only [setM, if_neg e, setM_new h, List.cons_append]
theorem keys_setM {k : ByteArray} {v : Value} : ∀ {L : SM}, getM L k ≠ none → (setM L k v).map (·.1) = L.map (·.1)
  | [], h => absurd rfl h
  | (k', v') :: r, h => by
    simp only [getM] at h
    by_cases e : k = k'
    · simp [setM, e]
    · rw [if_neg e] at h
      simp only [setM, if_neg e, List.map_cons, keys_setM h]
theorem getM_setM (k x : ByteArray) (v : Value) : ∀ (L : SM), getM (setM L k v) x = if x = k then some v else getM L x
  | [] => by simp [setM, getM]
  | (k', v') :: r => by
    by_cases e : k = k'
    · subst e
      simp only [setM, if_true, getM]
      by_cases h : x = k <;> simp [h]
    · simp only [setM, if_neg e, getM, getM_setM k x v r]
      by_cases h : x = k'
      · subst h
        have : ¬ x = k := fun h => e h.symm
        simp [this]
      · simp [h]
theorem setM_nodup {k : ByteArray} {v : Value} {L : SM} (h : (L.map (·.1)).Nodup) : ((setM L k v).map (·.1)).Nodup := by
  by_cases hk : getM L k = none
  · rw [setM_new hk, List.map_append, List.nodup_append]
    refine ⟨h, by simp, fun a ha b hb => ?_⟩
    have hb' : b = k := by simpa using hb
    subst hb'
    exact fun e => (getM_none.1 hk) (e ▸ ha)
  · rw [keys_setM hk]; exact h
theorem findM_key (k : ByteArray) : ∀ (L : SM) (j : Nat) (x : Nat × Value), findM L k j = some x → j ≤ x.1 ∧ ∃ v, L[x.1 - j]? = some (k, v)
  | [], _, _, h => by simp [findM] at h
  | (k', v') :: r, j, x, h => by
    simp only [findM] at h
    by_cases e : k = k'
    · rw [if_pos e] at h
      injection h with h
      subst h
      subst e
      exact ⟨Nat.le_refl _, v', by simp⟩
    · rw [if_neg e] at h
      obtain ⟨h1, v, h2⟩ := findM_key k r (j + 1) x h
      refine ⟨by omega, v, ?_⟩
      rw [show x.1 - j = (x.1 - (j + 1)) + 1 from by omega, List.getElem?_cons_succ, h2]
/-- What the model's write lays at a key that is there. -/
theorem ents_modify (k : ByteArray) (v : Value) : ∀ (L : SM) (i j : Nat) (x : Nat × Value), findM L k j = some x → j ≤ x.1 ∧ x.1 - j < L.length ∧ (ents L i).modify (x.1 - j) (fun e => { e with key := .string k, val := v }) = ents (setM L k v) i
  | [], _, _, _, h => by simp [findM] at h
  | (k', v') :: r, i, j, x, h => by
    simp only [findM] at h
    by_cases e : k = k'
    · rw [if_pos e] at h
      injection h with h
      subst h
      subst e
      refine ⟨Nat.le_refl _, by simp, ?_⟩
      simp [ents, setM]
    · rw [if_neg e] at h
      obtain ⟨h1, h2, h3⟩ := ents_modify k v r (i + 1) (j + 1) x h
      refine ⟨by omega, by simp; omega, ?_⟩
      rw [show x.1 - j = (x.1 - (j + 1)) + 1 from by omega]
      simp only [ents, setM, if_neg e, List.modify_succ_cons, h3]

/-! ### The operations -/
section
variable {P : Program}

def World.putObj (w : World) (b : Nat) (o : Obj) : World := { w with heap := w.heap.setIfInBounds b o }

theorem run_len_str (w : World) (b : Nat) (L : SM) (h : StrMap w b L) : w.heap[b]? = some (.map (ents L 0).toArray L.length) := h.1

theorem run_findKey_str (w : World) (kt : TypeId) (hk : P.underlying kt = some .string) (L : SM) (k : ByteArray) : (Instr.findKey kt (.string k) (ents L 0).toArray.toList).run P w = .ok (findM L k 0) w :=
  run_findKey hk (by simpa using findNow_ents k L 0 0)

theorem run_lookup_str (w : World) (t kt e : TypeId) (ht : P.underlying t = some (.map kt e)) (hk : P.underlying kt = some .string) (b : Nat) (L : SM) (h : StrMap w b L) (k : ByteArray) (z : Value) (hz : (zeroValue e).run P w = .ok z w) :
    (Instr.lookup t (.map (some b)) (.string k) false).run P w = .ok ((getM L k).getD z) w := by
  have h1 : w.heap[b]? = some (.map (ents L 0).toArray L.length) := h.1
  simp only [Instr.lookup, Sem.run_bind, run_underlying ht, Result.andThen_ok, Go.MapKept.run_getObj_map h1, Sem.run_pure, run_checkKey hk (show IsKey .string (.string k) from trivial), run_findKey_str w kt hk L k]
  rw [← findM_get k L 0]
  cases hf : findM L k 0 with
  | none => simp [hz]
  | some x => simp
theorem run_lookup_str_ok (w : World) (t kt e : TypeId) (ht : P.underlying t = some (.map kt e)) (hk : P.underlying kt = some .string) (b : Nat) (L : SM) (h : StrMap w b L) (k : ByteArray) (z : Value) (hz : (zeroValue e).run P w = .ok z w) :
    (Instr.lookup t (.map (some b)) (.string k) true).run P w = .ok (.tuple #[(getM L k).getD z, .bool (getM L k).isSome]) w := by
  have h1 : w.heap[b]? = some (.map (ents L 0).toArray L.length) := h.1
  simp only [Instr.lookup, Sem.run_bind, run_underlying ht, Result.andThen_ok, Go.MapKept.run_getObj_map h1, Sem.run_pure, run_checkKey hk (show IsKey .string (.string k) from trivial), run_findKey_str w kt hk L k]
  rw [← findM_get k L 0]
  cases hf : findM L k 0 with
  | none => simp [hz]
  | some x => simp

theorem run_mapUpdate_str (w : World) (t kt e : TypeId) (ht : P.underlying t = some (.map kt e)) (hk : P.underlying kt = some .string) (b : Nat) (L : SM) (h : StrMap w b L) (k : ByteArray) (v : Value) :
    (Instr.mapUpdate t (.map (some b)) (.string k) v).run P w = .ok () (World.putObj w b (mapObj (setM L k v))) := by
  have h1 : w.heap[b]? = some (.map (ents L 0).toArray L.length) := h.1
  simp only [Instr.mapUpdate, Sem.run_bind, run_underlying ht, Result.andThen_ok, Go.MapKept.run_getObj_map h1, run_checkKey hk (show IsKey .string (.string k) from trivial), run_findKey_str w kt hk L k]
  cases hf : findM L k 0 with
  | none =>
    have hg : getM L k = none := by rw [← findM_get k L 0, hf]; rfl
    simp only [Go.MapKept.run_setObj_map _ h1]
    rw [setM_new hg]
    unfold mapObj World.putObj
    rw [ents_append]
    simp
  | some x =>
    obtain ⟨_, h2, h3⟩ := ents_modify k v L 0 0 x hf
    have hg : getM L k ≠ none := by rw [← findM_get k L 0, hf]; simp
    have hl : (setM L k v).length = L.length := by simpa using congrArg List.length (keys_setM (v := v) hg)
    have hkey : ((ents L 0).toArray[x.1]?.map (·.key)).getD (.string k) = .string k := by
      obtain ⟨_, v0, h5⟩ := findM_key k L 0 x hf
      rw [Nat.sub_zero] at h5
      obtain ⟨h6, h7⟩ := List.getElem?_eq_some_iff.1 h5
      rw [List.getElem?_toArray, ents_get L 0 x.1 h6, h7]
      rfl
    have hsame : (k == k) = true := (bytes_beq k k).2 rfl
    simp only [hkey, Instr.keyThatStays, Instr.sameBits, hsame, if_true]
    unfold mapObj World.putObj
    rw [Nat.sub_zero] at h3
    rw [← h3, hl]
    simp
    exact Go.MapKept.run_setObj_map _ h1

/-- The next entry, whichever the tape says, or the end; the iterator may lie at any place. -/
theorem run_next_str (w : World) (ty : TypeId) (r bm : Nat) (L : SM) (seen : Array Nat) (hr : w.heap[r]? = some (.mapIter (some bm) L.length seen L.length)) (hm : StrMap w bm L) :
    ((∀ i, i < L.length → i ∈ seen) ∧ (Instr.next (.pointer (some ⟨r, 0, none⟩)) false ty).run P w = .ok (.tuple #[.bool false]) w) ∨
    ∃ (i : Nat) (hi : i < L.length) (q : Nat), i ∉ seen ∧ (Instr.next (.pointer (some ⟨r, 0, none⟩)) false ty).run P w =
      .ok (.tuple #[.bool true, .string (L[i]'hi).1, (L[i]'hi).2]) (World.putObj (w.drewN q) r (.mapIter (some bm) L.length (seen.push i) L.length)) := by
  have h1 : w.heap[bm]? = some (.map (ents L 0).toArray L.length) := hm.1
  have hborn : ∀ x ∈ (ents L 0).toArray.toList, x.born < L.length ∧ ∃ i, ∃ hi : i < L.length, x = { key := .string (L[i]'hi).1, val := (L[i]'hi).2, born := i } := by
    intro x hx
    obtain ⟨i, hi, hx'⟩ := List.getElem_of_mem hx
    have hi' : i < L.length := by simpa [ents_length] using hi
    have h2 := ents_get L 0 i hi'
    have h3 : (ents L 0)[i]? = some x := by rw [← hx']; simp
    rw [h2] at h3
    injection h3 with h3
    subst h3
    exact ⟨by simp; omega, i, hi', by simp⟩
  have ht := next_test_false seen (ents L 0).toArray L.length L.length (fun x hx => (hborn x hx).1) (Nat.le_refl _)
  simp only [Instr.next, getObj, Sem.run_bind, Sem.run, hr, h1, Result.andThen, ht, Bool.false_eq_true, if_false]
  have hmem : ∀ x ∈ ((ents L 0).toArray.filter (fun e => !seen.contains e.born)).toList, x ∈ (ents L 0).toArray.toList ∧ x.born ∉ seen := by
    intro x hx
    simp at hx ⊢
    exact hx
  have hleft : ((ents L 0).toArray.filter (fun e => !seen.contains e.born)).size = 0 → ∀ i, i < L.length → i ∈ seen := by
    intro h0 i hi
    have h2 : (ents L 0).toArray.filter (fun e => !seen.contains e.born) = #[] := Array.eq_empty_of_size_eq_zero h0
    rw [Array.filter_eq_empty_iff] at h2
    have h3 : (ents L 0)[i]? = _ := ents_get L 0 i hi
    have h4 := h2 _ (by simpa using List.mem_of_getElem? h3)
    simpa using h4
  generalize (ents L 0).toArray.filter (fun e => !seen.contains e.born) = X at hmem hleft ⊢
  have e1 : X.filter (fun x => decide (x.born < L.length)) = X := Array.filter_eq_self.2 (fun x hx => by simpa using (hborn x (hmem x (by simpa using hx)).1).1)
  have e2 : X.filter (fun x => decide (x.born ≥ L.length)) = #[] := by
    rw [Array.filter_eq_empty_iff]
    intro x hx
    have := (hborn x (hmem x (by simpa using hx)).1).1
    simp
    omega
  simp only [e1, e2, Array.append_empty]
  by_cases h0 : X.size = 0
  · left
    refine ⟨hleft h0, ?_⟩
    have : X = #[] := Array.eq_empty_of_size_eq_zero h0
    subst this
    simp [choose, Sem.run, Question.forced]
  · right
    have hne : X.isEmpty = false := by simp [Array.isEmpty, h0]
    simp only [hne, Bool.false_eq_true, if_false, Array.empty_append, Array.size_map]
    have hch : ∃ (j q : Nat), j < X.size ∧ (choose (Question.mapNext X.size)).run P w = .ok j (w.drewN q) := by
      by_cases hf : X.size ≤ 1
      · exact ⟨0, 0, by omega, by simp [choose, Sem.run, Question.forced, hf]; rfl⟩
      · exact ⟨_, 1, Nat.mod_lt _ (by omega), by
          simp only [choose, Sem.run, Question.forced, decide_eq_true_eq, hf, if_false, Question.cut]
          rfl⟩
    obtain ⟨j, q, hj, hrun⟩ := hch
    obtain ⟨hx1, hx2⟩ := hmem X[j] (by simp)
    obtain ⟨_, i, hi, hxe⟩ := hborn _ hx1
    rw [hxe] at hx2
    refine ⟨i, hi, q, hx2, ?_⟩
    have hr' : (w.drewN q).heap[r]? = some (.mapIter (some bm) L.length seen L.length) := hr
    simp only [hrun, Array.getElem?_map, Array.getElem?_eq_getElem hj, Option.map_some, Sem.run_bind, Result.andThen, hxe]
    have hset : ∀ o : Obj, (setObj r o).run P (w.drewN q) = .ok () (World.putObj (w.drewN q) r o) := fun o => by
      simp only [setObj, Sem.run, hr']
      rfl
    rw [hset]
    rfl

/-- The round's key and value, read behind the step. -/
theorem run_entry_str (w : World) (r bm : Nat) (L : SM) (seen : Array Nat) (i : Nat) (hi : i < L.length) (hr : w.heap[r]? = some (.mapIter (some bm) L.length (seen.push i) L.length)) (hm : StrMap w bm L) :
    (Instr.entry (.pointer (some ⟨r, 0, none⟩))).run P w = .ok (.tuple #[.string (L[i]'hi).1, (L[i]'hi).2]) w := by
  have h1 : w.heap[bm]? = some (.map (ents L 0).toArray L.length) := hm.1
  have hf : (ents L 0).toArray.find? (·.born == i) = some { key := .string (L[i]'hi).1, val := (L[i]'hi).2, born := i } := by
    have hn : ((ents L 0).map (·.born)).Nodup := by
      rw [ents_born]
      exact List.nodup_range'
    have hmem : ({ key := .string (L[i]'hi).1, val := (L[i]'hi).2, born := i } : MapEntry) ∈ ents L 0 := by
      have := ents_get L 0 i hi
      rw [Nat.zero_add] at this
      exact List.mem_of_getElem? this
    have := find_born _ (ents L 0) hn hmem
    rw [← Array.find?_toList]
    simpa using this
  simp only [Instr.entry, getObj, Sem.run_bind, Sem.run, hr, h1, Result.andThen, Array.back?_push, bne_self_eq_false, Bool.false_eq_true, if_false, hf]
  rfl

/-! ### What stays -/
theorem putObj_same {w : World} {b : Nat} {o : Obj} (h : b < w.heap.size) : (World.putObj w b o).heap[b]? = some o := by
  simp [World.putObj, h]
theorem putObj_other {w : World} {b x : Nat} {o : Obj} (h : x ≠ b) : (World.putObj w b o).heap[x]? = w.heap[x]? := by
  simp [World.putObj, Ne.symm h]
theorem putObj_size (w : World) (b : Nat) (o : Obj) : (World.putObj w b o).heap.size = w.heap.size := by simp [World.putObj]
theorem putObj_below {B : Nat} {a w : World} (h : Below B a w) {b : Nat} (hb : B ≤ b) (o : Obj) : Below B a (World.putObj w b o) :=
  ⟨h.os, h.tape, h.output, by rw [putObj_size]; exact h.size, fun k hk => by rw [putObj_other (by omega)]; exact h.block k hk⟩
theorem StrMap.lt {w : World} {b : Nat} {L : SM} (h : StrMap w b L) : b < w.heap.size := (Array.getElem?_eq_some_iff.1 h.1).1
theorem StrMap.of_block {w w' : World} {b : Nat} {L : SM} (h : StrMap w b L) (e : w'.heap[b]? = w.heap[b]?) : StrMap w' b L := ⟨e.trans h.1, h.2⟩
theorem StrMap.alloc {w : World} {b : Nat} {L : SM} (h : StrMap w b L) (o : Obj) : StrMap (w.alloc o) b L := h.of_block (heap_alloc_old w o h.lt)
theorem StrMap.setCell {w : World} {b : Nat} {L : SM} (h : StrMap w b L) {a : Addr} (ha : b ≠ a.block) (v : Value) : StrMap (w.setCell a v) b L := h.of_block (blk_setCell_other _ _ _ _ ha)
theorem StrMap.put {w : World} {b : Nat} {L : SM} (h : StrMap w b L) (k : ByteArray) (v : Value) : StrMap (World.putObj w b (mapObj (setM L k v))) b (setM L k v) := ⟨putObj_same h.lt, setM_nodup h.2⟩
theorem StrMap.putOther {w : World} {b x : Nat} {L : SM} (h : StrMap w b L) (hx : b ≠ x) (o : Obj) : StrMap (World.putObj w x o) b L := h.of_block (putObj_other hx)
theorem strMap_made (w : World) : StrMap (w.alloc (.map #[] 0)) w.heap.size [] := ⟨heap_alloc_new w _, by simp⟩
theorem rowIs_putObj {w : World} {b x : Nat} {t : TypeId} {n : Nat} {f : Nat → Value} (h : w.rowIs b t n f) (hx : b ≠ x) (o : Obj) : (World.putObj w x o).rowIs b t n f := h.of_block (putObj_other hx)
end
end Go.Proofs.YbulkcxswFmt
