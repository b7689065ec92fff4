import Derived.Test.YbulkcxswFmtSort
namespace Go.Proofs.YbulkcxswFmt
open Go

/-! ### Sorted names -/
theorem sortS_names {l m : List Nat} (hp : l.Perm m) (hm : m.Pairwise (· < ·)) (hb : ∀ x ∈ m, x < 676) : sortS (l.map nmL) = m.map nmL := by
  have h1 : (sortS (l.map nmL)).Pairwise (fun a b => a ≤ b) := by
    have := List.pairwise_mergeSort (le := fun (x y : List UInt8) => decide (x ≤ y)) (fun a b c h1 h2 => by simp at *; exact List.le_trans h1 h2) (fun a b => by simp; exact List.le_total a b) (l.map nmL)
    refine List.Pairwise.imp_of_mem (fun _ _ h => ?_) this
    simpa using h
  have h2 : (m.map nmL).Pairwise (fun a b => a ≤ b) := by
    rw [List.pairwise_map]
    refine List.Pairwise.imp_of_mem (fun {a b} _ hb' h => ?_) hm
    exact List.le_of_lt (nmL_lt (hb b hb') h)
  exact List.Perm.eq_of_pairwise (fun a b _ _ h3 h4 => List.le_antisymm h3 h4) h1 h2 ((List.mergeSort_perm _ _).trans (hp.map nmL))

/-! ### The order, plainly -/
def ready (deps : Nat → List Nat) (n : Nat) (pl : List Nat) (i : Nat) : Bool := !pl.contains i && (deps i).all (fun d => decide (n ≤ d) || pl.contains d)
def nextFree (deps : Nat → List Nat) (n : Nat) (pl : List Nat) : Option Nat := (List.range n).find? (ready deps n pl)
def ordF (deps : Nat → List Nat) (n : Nat) : Nat → List Nat → List Nat
  | 0, pl => pl
  | f + 1, pl => match nextFree deps n pl with
    | none => pl
    | some i => ordF deps n f (pl ++ [i])
def ord (deps : Nat → List Nat) (n : Nat) : List Nat := ordF deps n n []

/-- pl stands on the road to the whole order. -/
structure Road (deps : Nat → List Nat) (n : Nat) (pl : List Nat) : Prop where
  nodup : pl.Nodup
  low : ∀ x ∈ pl, x < n
  le : pl.length ≤ n
  to : ordF deps n (n - pl.length) pl = ord deps n
  after : ∀ k (hk : k < pl.length), ∀ d ∈ deps pl[k], d < n → d ∈ pl.take k

theorem Road.start (deps : Nat → List Nat) (n : Nat) : Road deps n [] := ⟨List.nodup_nil, by simp, by simp, rfl, fun k hk => by simp at hk⟩
theorem Road.step {deps : Nat → List Nat} {n : Nat} {pl : List Nat} (h : Road deps n pl) (hl : pl.length < n) {i : Nat} (hi : nextFree deps n pl = some i) : Road deps n (pl ++ [i]) := by
  have hr := List.find?_some hi
  have hm : i < n := List.mem_range.1 (List.mem_of_find?_eq_some hi)
  simp only [ready, Bool.and_eq_true, Bool.not_eq_true', List.all_eq_true, Bool.or_eq_true, decide_eq_true_eq] at hr
  have hni : i ∉ pl := by simpa using hr.1
  refine ⟨?_, ?_, by simp; omega, ?_, ?_⟩
  · rw [List.nodup_append]
    refine ⟨h.nodup, by simp, fun a ha b hb => ?_⟩
    have : b = i := by simpa using hb
    subst this
    exact fun e => hni (e ▸ ha)
  · intro x hx
    rcases List.mem_append.1 hx with hx | hx
    · exact h.low x hx
    · have : x = i := by simpa using hx
      omega
  · have := h.to
    rw [show n - pl.length = (n - (pl ++ [i]).length) + 1 from by simp; omega] at this
    simpa only [ordF, hi] using this
  · intro k hk d hd hdn
    by_cases hk2 : k < pl.length
    · rw [List.getElem_append_left hk2] at hd
      have := h.after k hk2 d hd hdn
      rw [List.take_append_of_le_length (by omega)]
      exact this
    · have hke : k = pl.length := by simp at hk; omega
      subst hke
      rw [List.getElem_append_right (by omega)] at hd
      simp at hd
      rcases hr.2 d hd with h1 | h1
      · omega
      · simpa using h1
theorem Road.stuck {deps : Nat → List Nat} {n : Nat} {pl : List Nat} (h : Road deps n pl) (hi : nextFree deps n pl = none) : ord deps n = pl := by
  rw [← h.to]
  cases n - pl.length with
  | zero => rfl
  | succ f => simp only [ordF, hi]
theorem Road.full {deps : Nat → List Nat} {n : Nat} {pl : List Nat} (h : Road deps n pl) (hl : ¬ pl.length < n) : ord deps n = pl := by
  rw [← h.to, show n - pl.length = 0 from by omega]
  rfl
/-- Where the order is stuck every id that is not placed waits for a known one that is not placed. -/
theorem stuck_waits {deps : Nat → List Nat} {n : Nat} {pl : List Nat} (hi : nextFree deps n pl = none) {i : Nat} (hin : i < n) (hip : i ∉ pl) : ∃ d ∈ deps i, d < n ∧ d ∉ pl := by
  have h1 := List.find?_eq_none.1 hi i (List.mem_range.2 hin)
  simp only [ready, Bool.and_eq_true, Bool.not_eq_true', List.all_eq_true, Bool.or_eq_true, decide_eq_true_eq, not_and] at h1
  have h2 := h1 (by simpa using hip)
  obtain ⟨d, hd⟩ := Classical.not_forall.1 h2
  obtain ⟨hd1, hd2⟩ := Classical.not_imp.1 hd
  have h3 := not_or.1 hd2
  exact ⟨d, hd1, by omega, by simpa using h3.2⟩
end Go.Proofs.YbulkcxswFmt
