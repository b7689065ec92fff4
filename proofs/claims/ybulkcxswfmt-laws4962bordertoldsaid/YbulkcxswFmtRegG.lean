import Derived.Test.YbulkcxswFmtReg23
namespace Go.Proofs.YbulkcxswFmt
open Go Go.RowKit Go.Deep

/-! ### The same law where operations are guarded, all of them wanted -/
def backB (ops : Array Oper) : Bool := (List.range ops.size).all fun i => ((ops[i]?).map fun o => o.after.all (fun e => decide (e.on < i))).getD true
theorem back_spec {ops : Array Oper} (h : backB ops = true) {i : Nat} {o : Oper} (ho : ops[i]? = some o) : ∀ e ∈ o.after, e.on < i := by
  have hi : i < ops.size := (Array.getElem?_eq_some_iff.1 ho).1
  have := List.all_eq_true.1 h i (List.mem_range.2 hi)
  rw [ho] at this
  simp only [Option.map_some, Option.getD_some] at this
  exact fun e he => by simpa using Array.all_eq_true'.1 this e he
theorem wanted_free {ops : Array Oper} {o : Oper} {tmps : Array Value} (h : o.guard = none) : Region.wanted o (yielded ops tmps) = true := by simp [Region.wanted, h]
theorem InvA.wanted {ops : Array Oper} {vals : Nat → Value} {a0 a : Act} {listed : Array Bool} (h : InvA ops vals a0 listed a) (hd : dstsB ops a0.tmps.size = true) {o : Oper} {g s : Nat} {b : Bool} (hg : o.guard = some (g, b)) (hs : dstAt ops g = some s) (hl : listed.getD g false = true) (hv : vals g = .bool b) : Region.wanted o (yielded ops a.tmps) = true := by
  have h1 := h.now s g hs hl
  have h2 : s < a.tmps.size := by rw [h.size]; exact (dsts_spec hd hs).1
  have h3 : a.tmps[s]? = some (.bool b) := by
    rw [Array.getElem?_eq_getElem h2]
    rw [Array.getD_eq_getD_getElem?, Array.getElem?_eq_getElem h2, Option.getD_some, hv] at h1
    rw [h1]
  have h4 : yielded ops a.tmps g = some b := by
    unfold yielded
    have : (ops[g]?).bind (·.dst) = some s := hs
    rw [this]
    simp [h3]
  simp [Region.wanted, hg, h4]
theorem wpOp_want {P : Program} {ops : Array Oper} {Q : Exit → Act → World → Prop} {i : Nat} {o : Oper} {K K' : Act → World → Prop} {a : Act} {w : World} (ho : ops[i]? = some o) (hg : Region.wanted o (yielded ops a.tmps) = true) (h : o.wp P a w K Q) (hk : ∀ a w, K a w → K' a w) : wpOp P ops Q i K' a w := by
  unfold wpOp
  rw [ho]
  show if Region.wanted o (yielded ops a.tmps) = true then _ else _
  rw [if_pos hg]
  exact .inl (Oper.wp_mono hk h)
def contB (ops : Array Oper) (m : Nat) : Bool := (List.range ops.size).all fun j => dstAt ops j == some (m + j)
theorem InvA.final {ops : Array Oper} {vals : List Value} {a0 a : Act} {listed : Array Bool} (h : InvA ops (fun j => vals.getD j undef) a0 listed a) {m : Nat} (hc : contB ops m = true) (hv : vals.length = ops.size) (hm : m + ops.size ≤ a0.tmps.size) (hl : ∀ i, i < ops.size → listed.getD i false = true) :
    a = ⟨(a0.tmps.toList.take m ++ (vals ++ a0.tmps.toList.drop (m + ops.size))).toArray, a0.defers⟩ := by
  have hcj : ∀ j, j < ops.size → dstAt ops j = some (m + j) := fun j hj => by
    have := List.all_eq_true.1 hc j (List.mem_range.2 hj)
    simpa using this
  have hcs : ∀ (j s : Nat), dstAt ops j = some s → j < ops.size ∧ s = m + j := fun j s hs => by
    have hj : j < ops.size := by
      unfold dstAt at hs
      cases ho : ops[j]? with
      | none => rw [ho] at hs; cases hs
      | some o => exact (Array.getElem?_eq_some_iff.1 ho).1
    have := hcj j hj
    rw [hs] at this
    injection this with this
    exact ⟨hj, this⟩
  refine act_ext h.defers (by simp [h.size]; omega) (fun s => ?_)
  have hlen : (a0.tmps.toList.take m).length = m := by simp; omega
  have hr : ((a0.tmps.toList.take m ++ (vals ++ a0.tmps.toList.drop (m + ops.size))).toArray).getD s undef = if s < m then a0.tmps.getD s undef else if s < m + ops.size then vals.getD (s - m) undef else a0.tmps.getD s undef := by
    simp only [Array.getD_eq_getD_getElem?, List.getElem?_toArray]
    by_cases h1 : s < m
    · rw [if_pos h1, List.getElem?_append_left (by omega), List.getElem?_take, if_pos h1, Array.getElem?_toList]
    · rw [if_neg h1, List.getElem?_append_right (by omega), hlen]
      by_cases h2 : s < m + ops.size
      · rw [if_pos h2, List.getElem?_append_left (by omega), List.getD_eq_getElem?_getD]
      · rw [if_neg h2, List.getElem?_append_right (by omega), List.getElem?_drop, Array.getElem?_toList, show m + ops.size + (s - m - vals.length) = s from by omega]
  rw [hr]
  by_cases h1 : s < m
  · rw [if_pos h1]
    exact h.old s (fun j hj => by have := hcs j s hj; omega)
  · rw [if_neg h1]
    by_cases h2 : s < m + ops.size
    · rw [if_pos h2]
      exact h.now s (s - m) (by rw [hcj (s - m) (by omega), show m + (s - m) = s from by omega]) (hl _ (by omega))
    · rw [if_neg h2]
      exact h.old s (fun j hj => by have := hcs j s hj; omega)
theorem wpAny_invg {P : Program} {ops : Array Oper} {Q : Exit → Act → World → Prop} (vals : List Value) (a0 : Act) (Wp : World → Prop) (m mx : Nat) (hmx : m + ops.size = mx) (hc : contB ops m = true) (hv : vals.length = ops.size) (hmm : m + ops.size ≤ a0.tmps.size)
    (hedge : backB ops = true) (hdst : dstsB ops a0.tmps.size = true)
    (hstep : ∀ (listed : Array Bool) (a : Act) (w : World) (i : Nat) (o : Oper), ops[i]? = some o → InvA ops (fun j => vals.getD j undef) a0 listed a → Wp w → (∀ e ∈ o.after, Region.binds .any e = true → listed.getD e.on false = true) → Region.wanted o (yielded ops a.tmps) = true ∧ o.wp P a w (fun a' w' => a' = a.put o.dst (vals.getD i undef) ∧ Wp w') Q)
    (hdone : ∀ (w : World), Wp w → Q .normal ⟨(a0.tmps.toList.take m ++ (vals ++ a0.tmps.toList.drop mx)).toArray, a0.defers⟩ w) :
    ∀ (fuel : Nat) (listed : Array Bool) (a : Act) (w : World), listed.size = ops.size → listed.toList.count false ≤ fuel → InvA ops (fun j => vals.getD j undef) a0 listed a → Wp w → wpAny P .any ops Q fuel listed a w := by
  have hall : ∀ (listed : Array Bool), listed.size = ops.size → Region.ready .any ops listed = [] → ∀ i, i < ops.size → listed.getD i false = true := fun listed hs hr => by
    intro i
    induction i using Nat.strongRecOn with
    | ind i ih =>
      intro hi
      cases hb : listed.getD i false with
      | true => rfl
      | false =>
        exfalso
        obtain ⟨o, ho⟩ : ∃ o, ops[i]? = some o := ⟨ops[i], Array.getElem?_eq_getElem hi⟩
        have hm : i ∈ Region.ready .any ops listed := mem_ready.2 ⟨by
          have hil : i < listed.size := by omega
          simpa [Array.getD_eq_getD_getElem?, Array.getElem?_eq_getElem hil] using hb, o, ho, fun e he _ => by
          have := back_spec hedge ho e he
          exact ih e.on this (by omega)⟩
        rw [hr] at hm
        cases hm
  have hfin : ∀ (listed : Array Bool) (a : Act) (w : World), listed.size = ops.size → Region.ready .any ops listed = [] → InvA ops (fun j => vals.getD j undef) a0 listed a → Wp w → Q .normal a w := fun listed a w hs hr hi hw => by
    rw [hi.final hc hv hmm (hall listed hs hr), hmx]
    exact hdone w hw
  intro fuel
  induction fuel with
  | zero =>
    intro listed a w hs hc hi hw
    have hr : Region.ready .any ops listed = [] := by
      cases h : Region.ready .any ops listed with
      | nil => rfl
      | cons i r =>
        exfalso
        have hm : i ∈ Region.ready .any ops listed := by rw [h]; simp
        obtain ⟨h1, o, ho, _⟩ := mem_ready.1 hm
        have hil : i < listed.size := by rw [hs]; exact (Array.getElem?_eq_some_iff.1 ho).1
        have h2 : false ∈ listed.toList := by
          have : listed[i] = false := by simpa [Array.getD_eq_getD_getElem?, Array.getElem?_eq_getElem hil] using h1
          rw [← this]
          simp
        have := List.count_pos_iff.2 h2
        omega
    exact ⟨hr, hfin listed a w hs hr hi hw⟩
  | succ fuel ih =>
    intro listed a w hs hc hi hw
    refine ⟨fun hr => hfin listed a w hs hr hi hw, fun i hm => ?_⟩
    obtain ⟨h1, o, ho, hpre⟩ := mem_ready.1 hm
    have hil : i < listed.size := by rw [hs]; exact (Array.getElem?_eq_some_iff.1 ho).1
    have h2 : listed[i] = false := by simpa [Array.getD_eq_getD_getElem?, Array.getElem?_eq_getElem hil] using h1
    obtain ⟨hwant, hwp⟩ := hstep listed a w i o ho hi hw hpre
    refine wpOp_want ho hwant hwp (fun a' w' h => ?_)
    obtain ⟨rfl, hw'⟩ := h
    refine ih _ _ _ (by simpa using hs) ?_ (hi.step hdst ho hil) hw'
    have := cnt_set listed.toList i (by simp [Array.getElem?_eq_getElem hil, h2])
    simp only [Array.toList_setIfInBounds]
    omega
theorem wp_region_invg {P : Program} {id : Nat} {ops : Array Oper} {Q : Exit → Act → World → Prop} {a0 : Act} {w : World} (hm : P.follows .mixedOrders = true) (vals : List Value) (Wp : World → Prop) (m mx : Nat) (hmx : m + ops.size = mx) (hc : contB ops m = true) (hv : vals.length = ops.size) (hmm : m + ops.size ≤ a0.tmps.size)
    (hedge : backB ops = true) (hdst : dstsB ops a0.tmps.size = true) (h0 : Wp w.drew)
    (hstep : ∀ (listed : Array Bool) (a : Act) (w : World) (i : Nat) (o : Oper), ops[i]? = some o → InvA ops (fun j => vals.getD j undef) a0 listed a → Wp w → (∀ e ∈ o.after, Region.binds .any e = true → listed.getD e.on false = true) → Region.wanted o (yielded ops a.tmps) = true ∧ o.wp P a w (fun a' w' => a' = a.put o.dst (vals.getD i undef) ∧ Wp w') Q)
    (hdone : ∀ (w : World), Wp w → Q .normal ⟨(a0.tmps.toList.take m ++ (vals ++ a0.tmps.toList.drop mx)).toArray, a0.defers⟩ w) : (Code.region id ops true).wp P Q a0 w :=
  wp_region_any hm (wpAny_invg vals a0 Wp m mx hmx hc hv hmm hedge hdst hstep hdone ops.size _ a0 _ (by simp) (by simp) (InvA.start _ _ _ _) h0)
end Go.Proofs.YbulkcxswFmt
