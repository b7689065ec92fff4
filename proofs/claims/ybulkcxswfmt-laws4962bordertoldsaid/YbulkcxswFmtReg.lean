import Derived.Test.YbulkcxswFmtApp
import Derived.RegionTactic
namespace Go.Proofs.YbulkcxswFmt
open Go Go.RowKit Go.Deep

/-! ### A region that draws its order, by one invariant instead of by its orders -/
def dstAt (ops : Array Oper) (i : Nat) : Option Tmp := (ops[i]?).bind (·.dst)
def edgesB (ops : Array Oper) : Bool := (List.range ops.size).all fun i => ((ops[i]?).map fun o => o.after.all (fun e => decide (e.on < i)) && o.guard.isNone).getD true
def dstsB (ops : Array Oper) (n : Nat) : Bool := (List.range ops.size).all fun i => ((dstAt ops i).map fun d => decide (d < n) && (List.range ops.size).all fun j => decide (i = j) || !(dstAt ops j == some d)).getD true

structure InvA (ops : Array Oper) (vals : Nat → Value) (a0 : Act) (listed : Array Bool) (a : Act) : Prop where
  defers : a.defers = a0.defers
  size : a.tmps.size = a0.tmps.size
  now : ∀ s i, dstAt ops i = some s → listed.getD i false = true → a.tmps.getD s undef = vals i
  old : ∀ s, (∀ i, dstAt ops i = some s → listed.getD i false = false) → a.tmps.getD s undef = a0.tmps.getD s undef

def putAll (vals : Nat → Value) : List Oper → Nat → Act → Act
  | [], _, a => a
  | o :: os, i, a => putAll vals os (i + 1) (a.put o.dst (vals i))

theorem edges_spec {ops : Array Oper} (h : edgesB ops = true) {i : Nat} {o : Oper} (ho : ops[i]? = some o) : (∀ e ∈ o.after, e.on < i) ∧ o.guard = none := by
  have hi : i < ops.size := (Array.getElem?_eq_some_iff.1 ho).1
  have := List.all_eq_true.1 h i (List.mem_range.2 hi)
  rw [ho] at this
  simp only [Option.map_some, Option.getD_some, Bool.and_eq_true, Option.isNone_iff_eq_none] at this
  refine ⟨fun e he => ?_, this.2⟩
  have h2 := Array.all_eq_true'.1 this.1 e he
  simpa using h2
theorem dsts_spec {ops : Array Oper} {n : Nat} (h : dstsB ops n = true) {i d : Nat} (hd : dstAt ops i = some d) : d < n ∧ ∀ j, dstAt ops j = some d → i = j := by
  have hi : i < ops.size := by
    unfold dstAt at hd
    cases ho : ops[i]? with
    | none => rw [ho] at hd; cases hd
    | some o => exact (Array.getElem?_eq_some_iff.1 ho).1
  have := List.all_eq_true.1 h i (List.mem_range.2 hi)
  rw [hd] at this
  simp only [Option.map_some, Option.getD_some, Bool.and_eq_true, decide_eq_true_eq, List.all_eq_true, List.mem_range, Bool.or_eq_true, Bool.not_eq_true', beq_eq_false_iff_ne] at this
  refine ⟨this.1, fun j hj => ?_⟩
  have hjs : j < ops.size := by
    unfold dstAt at hj
    cases ho : ops[j]? with
    | none => rw [ho] at hj; cases hj
    | some o => exact (Array.getElem?_eq_some_iff.1 ho).1
  rcases this.2 j hjs with h1 | h1
  · exact h1
  · exact absurd hj h1

theorem getD_set_bool {l : Array Bool} {i j : Nat} (hi : i < l.size) : (l.setIfInBounds i true).getD j false = if i = j then true else l.getD j false := by
  simp only [Array.getD_eq_getD_getElem?, Array.getElem?_setIfInBounds]
  by_cases h : i = j
  · subst h; simp [hi]
  · simp [h]
theorem getD_put (a : Act) (d s : Nat) (v : Value) : (a.put (some d) v).tmps.getD s undef = if d = s ∧ d < a.tmps.size then v else a.tmps.getD s undef := by
  simp only [Act.put, Array.getD_eq_getD_getElem?, Array.getElem?_setIfInBounds]
  by_cases h : d = s
  · subst h
    by_cases h2 : d < a.tmps.size
    · simp [h2]
    · simp [h2]
  · simp [h]

theorem InvA.step {ops : Array Oper} {vals : Nat → Value} {a0 a : Act} {listed : Array Bool} (hd : dstsB ops a0.tmps.size = true) (h : InvA ops vals a0 listed a) {i : Nat} {o : Oper} (ho : ops[i]? = some o) (hi : i < listed.size) :
    InvA ops vals a0 (listed.setIfInBounds i true) (a.put o.dst (vals i)) := by
  have hdi : dstAt ops i = o.dst := by unfold dstAt; rw [ho]; rfl
  cases hod : o.dst with
  | none =>
    rw [hod] at hdi
    refine ⟨h.defers, h.size, fun s j hj hl => ?_, fun s hs => ?_⟩
    · rw [getD_set_bool hi] at hl
      by_cases e : i = j
      · subst e; rw [hdi] at hj; cases hj
      · rw [if_neg e] at hl; exact h.now s j hj hl
    · refine h.old s (fun j hj => ?_)
      have := hs j hj
      rw [getD_set_bool hi] at this
      by_cases e : i = j
      · subst e; rw [hdi] at hj; cases hj
      · rwa [if_neg e] at this
  | some d =>
    rw [hod] at hdi
    obtain ⟨hlt, huniq⟩ := dsts_spec hd hdi
    refine ⟨h.defers, by simp [Act.put, h.size], fun s j hj hl => ?_, fun s hs => ?_⟩
    · rw [getD_put]
      rw [getD_set_bool hi] at hl
      by_cases e : i = j
      · subst e
        rw [hdi] at hj
        injection hj with hj
        rw [if_pos ⟨hj, by rw [h.size]; exact hlt⟩]
      · rw [if_neg e] at hl
        rw [if_neg (fun h2 => e (huniq j (by rw [h2.1]; exact hj)))]
        exact h.now s j hj hl
    · rw [getD_put]
      have hne : d ≠ s := fun e => by
        have := hs i (by rw [hdi, e])
        rw [getD_set_bool hi, if_pos rfl] at this
        cases this
      rw [if_neg (fun h2 => hne h2.1)]
      refine h.old s (fun j hj => ?_)
      have := hs j hj
      rw [getD_set_bool hi] at this
      by_cases e : i = j
      · subst e; rw [hdi] at hj; exact absurd (Option.some.inj hj) hne
      · rwa [if_neg e] at this
theorem InvA.start (ops : Array Oper) (vals : Nat → Value) (a0 : Act) (n : Nat) : InvA ops vals a0 (Array.replicate n false) a0 :=
  { defers := rfl
    size := rfl
    now := fun s i _ hl => by
      simp only [Array.getD_eq_getD_getElem?, Array.getElem?_replicate] at hl
      by_cases h : i < n
      · rw [if_pos h] at hl; cases hl
      · rw [if_neg h] at hl; cases hl
    old := fun _ _ => rfl }
theorem act_ext {a b : Act} (h1 : a.defers = b.defers) (h2 : a.tmps.size = b.tmps.size) (h3 : ∀ s, a.tmps.getD s undef = b.tmps.getD s undef) : a = b := by
  obtain ⟨ta, da⟩ := a
  obtain ⟨tb, db⟩ := b
  simp only at h1 h2 h3
  subst h1
  congr 1
  refine Array.ext h2 (fun i h4 h5 => ?_)
  have := h3 i
  simpa [Array.getD_eq_getD_getElem?, Array.getElem?_eq_getElem h4, Array.getElem?_eq_getElem h5] using this
theorem InvA.uniq {ops : Array Oper} {vals : Nat → Value} {a0 a b : Act} {l m : Array Bool} (ha : InvA ops vals a0 l a) (hb : InvA ops vals a0 m b) (hl : ∀ i, i < ops.size → l.getD i false = true) (hm : ∀ i, i < ops.size → m.getD i false = true) : a = b := by
  refine act_ext (ha.defers.trans hb.defers.symm) (ha.size.trans hb.size.symm) (fun s => ?_)
  by_cases hs : ∃ i, dstAt ops i = some s
  · obtain ⟨i, hi⟩ := hs
    have hlt : i < ops.size := by
      unfold dstAt at hi
      cases ho : ops[i]? with
      | none => rw [ho] at hi; cases hi
      | some o => exact (Array.getElem?_eq_some_iff.1 ho).1
    rw [ha.now s i hi (hl i hlt), hb.now s i hi (hm i hlt)]
  · rw [ha.old s (fun i hi => absurd ⟨i, hi⟩ hs), hb.old s (fun i hi => absurd ⟨i, hi⟩ hs)]
theorem InvA.all {ops : Array Oper} {vals : Nat → Value} {a0 : Act} (hd : dstsB ops a0.tmps.size = true) : ∀ (os : List Oper) (k : Nat) (a : Act) (l : Array Bool), ops.toList.drop k = os → l.size = ops.size → (∀ i, i < ops.size → (l.getD i false = true ↔ i < k)) → InvA ops vals a0 l a →
    ∃ m : Array Bool, (∀ i, i < ops.size → m.getD i false = true) ∧ InvA ops vals a0 m (putAll vals os k a)
  | [], k, a, l, hk, hs, hl, h => ⟨l, fun i hi => (hl i hi).2 (by
      have := congrArg List.length hk
      simp at this
      omega), h⟩
  | o :: os, k, a, l, hk, hs, hl, h => by
    have hkl : k < ops.size := by
      have := congrArg List.length hk
      simp at this
      omega
    have ho : ops[k]? = some o := by
      have h1 : (ops.toList.drop k)[0]? = some o := by rw [hk]; rfl
      rw [List.getElem?_drop] at h1
      simpa using h1
    have hd2 : ops.toList.drop (k + 1) = os := by
      have h1 : (ops.toList.drop k).drop 1 = os := by rw [hk]; rfl
      rwa [List.drop_drop] at h1
    exact InvA.all hd os (k + 1) _ (l.setIfInBounds k true) hd2 (by simpa using hs) (fun i hi => by
      rw [getD_set_bool (by omega)]
      by_cases e : k = i
      · subst e; simp
      · rw [if_neg e, hl i hi]; omega) (h.step hd ho (by omega))

theorem cnt_set : ∀ (l : List Bool) (i : Nat), l[i]? = some false → (l.set i true).count false + 1 = l.count false
  | [], i, h => by simp at h
  | b :: l, 0, h => by
    have : b = false := by simpa using h
    subst this
    simp
  | b :: l, i + 1, h => by
    have := cnt_set l i (by simpa using h)
    simp only [List.set_cons_succ, List.count_cons]
    omega
theorem wpOp_mono' {P : Program} {ops : Array Oper} {Q : Exit → Act → World → Prop} {i : Nat} {o : Oper} {K K' : Act → World → Prop} {a : Act} {w : World} (ho : ops[i]? = some o) (hg : o.guard = none) (h : o.wp P a w K Q) (hk : ∀ a w, K a w → K' a w) : wpOp P ops Q i K' a w := by
  unfold wpOp
  rw [ho]
  show if Region.wanted o (yielded ops a.tmps) = true then _ else _
  rw [if_pos (by simp [Region.wanted, hg])]
  exact .inl (Oper.wp_mono hk h)

theorem wpAny_inv {P : Program} {ops : Array Oper} {Q : Exit → Act → World → Prop} (vals : Nat → Value) (a0 : Act) (Wp : Array Bool → World → Prop)
    (hedge : edgesB ops = true) (hdst : dstsB ops a0.tmps.size = true)
    (hstep : ∀ (listed : Array Bool) (a : Act) (w : World) (i : Nat) (o : Oper), ops[i]? = some o → InvA ops vals a0 listed a → Wp listed w → listed.size = ops.size → (∀ e ∈ o.after, Region.binds .any e = true → listed.getD e.on false = true) → listed.getD i false = false → o.wp P a w (fun a' w' => a' = a.put o.dst (vals i) ∧ Wp (listed.setIfInBounds i true) w') Q)
    (hdone : ∀ (listed : Array Bool) (w : World), (∀ i, i < ops.size → listed.getD i false = true) → Wp listed w → Q .normal (putAll vals ops.toList 0 a0) w) :
    ∀ (fuel : Nat) (listed : Array Bool) (a : Act) (w : World), listed.size = ops.size → listed.toList.count false ≤ fuel → InvA ops vals a0 listed a → Wp listed w → wpAny P .any ops Q fuel listed a w := by
  have hall : ∀ (listed : Array Bool), listed.size = ops.size → Region.ready .any ops listed = [] → ∀ i, i < ops.size → listed.getD i false = true := fun listed hs hr => by
    intro i
    induction i using Nat.strongRecOn with
    | ind i ih =>
      intro hi
      cases hb : listed.getD i false with
      | true => rfl
      | false =>
        exfalso
        obtain ⟨o, ho⟩ : ∃ o, ops[i]? = some o := ⟨ops[i], Array.getElem?_eq_getElem hi⟩
        have hm : i ∈ Region.ready .any ops listed := mem_ready.2 ⟨by
          have hil : i < listed.size := by omega
          simpa [Array.getD_eq_getD_getElem?, Array.getElem?_eq_getElem hil] using hb, o, ho, fun e he _ => by
          have := (edges_spec hedge ho).1 e he
          exact ih e.on this (by omega)⟩
        rw [hr] at hm
        cases hm
  have hfin : ∀ (listed : Array Bool) (a : Act) (w : World), listed.size = ops.size → Region.ready .any ops listed = [] → InvA ops vals a0 listed a → Wp listed w → Q .normal a w := fun listed a w hs hr hi hw => by
    obtain ⟨m, hm, hI⟩ := InvA.all (ops := ops) (vals := vals) (a0 := a0) hdst ops.toList 0 a0 (Array.replicate ops.size false) (by simp) (by simp) (fun i hi => by simp [Array.getD_eq_getD_getElem?, hi]) (InvA.start _ _ _ _)
    rw [hi.uniq hI (hall listed hs hr) hm]
    exact hdone listed w (hall listed hs hr) hw
  intro fuel
  induction fuel with
  | zero =>
    intro listed a w hs hc hi hw
    have hr : Region.ready .any ops listed = [] := by
      cases h : Region.ready .any ops listed with
      | nil => rfl
      | cons i r =>
        exfalso
        have hm : i ∈ Region.ready .any ops listed := by rw [h]; simp
        obtain ⟨h1, o, ho, _⟩ := mem_ready.1 hm
        have hil : i < listed.size := by rw [hs]; exact (Array.getElem?_eq_some_iff.1 ho).1
        have h2 : false ∈ listed.toList := by
          have : listed[i] = false := by simpa [Array.getD_eq_getD_getElem?, Array.getElem?_eq_getElem hil] using h1
          rw [← this]
          simp
        have := List.count_pos_iff.2 h2
        omega
    exact ⟨hr, hfin listed a w hs hr hi hw⟩
  | succ fuel ih =>
    intro listed a w hs hc hi hw
    refine ⟨fun hr => hfin listed a w hs hr hi hw, fun i hm => ?_⟩
    obtain ⟨h1, o, ho, hpre⟩ := mem_ready.1 hm
    have hil : i < listed.size := by rw [hs]; exact (Array.getElem?_eq_some_iff.1 ho).1
    have h2 : listed[i] = false := by simpa [Array.getD_eq_getD_getElem?, Array.getElem?_eq_getElem hil] using h1
    have hu : listed.getD i false = false := by simp [Array.getD_eq_getD_getElem?, Array.getElem?_eq_getElem hil, h2]
    refine wpOp_mono' ho (edges_spec hedge ho).2 (hstep listed a w i o ho hi hw hs hpre hu) (fun a' w' h => ?_)
    obtain ⟨rfl, hw'⟩ := h
    refine ih _ _ _ (by simpa using hs) ?_ (hi.step hdst ho hil) hw'
    have := cnt_set listed.toList i (by simp [Array.getElem?_eq_getElem hil, h2])
    simp only [Array.toList_setIfInBounds]
    omega
theorem wp_region_inv {P : Program} {id : Nat} {ops : Array Oper} {Q : Exit → Act → World → Prop} {a0 : Act} {w : World} (hm : P.follows .mixedOrders = true) (vals : Nat → Value) (Wp : Array Bool → World → Prop)
    (hedge : edgesB ops = true) (hdst : dstsB ops a0.tmps.size = true) (h0 : Wp (Array.replicate ops.size false) w.drew)
    (hstep : ∀ (listed : Array Bool) (a : Act) (w : World) (i : Nat) (o : Oper), ops[i]? = some o → InvA ops vals a0 listed a → Wp listed w → listed.size = ops.size → (∀ e ∈ o.after, Region.binds .any e = true → listed.getD e.on false = true) → listed.getD i false = false → o.wp P a w (fun a' w' => a' = a.put o.dst (vals i) ∧ Wp (listed.setIfInBounds i true) w') Q)
    (hdone : ∀ (listed : Array Bool) (w : World), (∀ i, i < ops.size → listed.getD i false = true) → Wp listed w → Q .normal (putAll vals ops.toList 0 a0) w) : (Code.region id ops true).wp P Q a0 w :=
  wp_region_any hm (wpAny_inv vals a0 Wp hedge hdst hstep hdone ops.size _ a0 _ (by simp) (by simp) (InvA.start _ _ _ _) h0)
def noDstB (ops : Array Oper) (s : Nat) : Bool := (List.range ops.size).all fun j => !(dstAt ops j == some s)
theorem InvA.far {ops : Array Oper} {vals : Nat → Value} {a0 a : Act} {listed : Array Bool} (h : InvA ops vals a0 listed a) {s : Nat} (hs : noDstB ops s = true) : a.tmps.getD s undef = a0.tmps.getD s undef :=
  h.old s (fun j hj => by
    have hlt : j < ops.size := by
      unfold dstAt at hj
      cases ho : ops[j]? with
      | none => rw [ho] at hj; cases hj
      | some o => exact (Array.getElem?_eq_some_iff.1 ho).1
    have := List.all_eq_true.1 hs j (List.mem_range.2 hlt)
    rw [hj] at this
    simp at this)
theorem wp_value {P : Program} {o : Oper} {a : Act} {w w' : World} {K : Act → World → Prop} {Q : Exit → Act → World → Prop} (v : Value) (h : (execOp a.eval o).run P w = .ok (.value v) w') (hk : K (a.put o.dst v) w') : o.wp P a w K Q := by
  unfold Oper.wp
  rw [h]
  exact hk
theorem wp_skip {P : Program} {o : Oper} {a : Act} {w w' : World} {K : Act → World → Prop} {Q : Exit → Act → World → Prop} (h : (execOp a.eval o).run P w = .ok .skip w') (hk : K (a.put o.dst undef) w') : o.wp P a w K Q := by
  unfold Oper.wp
  rw [h]
  exact hk
end Go.Proofs.YbulkcxswFmt
