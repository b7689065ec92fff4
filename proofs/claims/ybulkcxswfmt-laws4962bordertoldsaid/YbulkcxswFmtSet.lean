import Derived.Test.YbulkcxswFmtKeys
namespace Go.Proofs.YbulkcxswFmt
open Go Go.RowKit Go.Deep

/-! ### What an id waits for first, plainly -/
def better (n : Nat) (pl : List Nat) (o : Option Nat) (d : Nat) : Option Nat :=
  if d < n ∧ d ∉ pl ∧ (∀ x, o = some x → d < x) then some d else o
def minW (n : Nat) (pl l : List Nat) : Option Nat := l.foldl (better n pl) none
def nmO : Option Nat → ByteArray
  | none => ⟨#[]⟩
  | some d => nm d

theorem foldl_good {n : Nat} {pl : List Nat} : ∀ (l : List Nat) (o : Option Nat), (∀ x, o = some x → x < n ∧ x ∉ pl) → ∀ x, l.foldl (better n pl) o = some x → x < n ∧ x ∉ pl ∧ (o = some x ∨ x ∈ l)
  | [], o, h, x, hx => ⟨(h x hx).1, (h x hx).2, Or.inl hx⟩
  | d :: l, o, h, x, hx => by
    have hgood : ∀ y, better n pl o d = some y → (y < n ∧ y ∉ pl) ∧ (o = some y ∨ y = d) := by
      intro y hy
      unfold better at hy
      split at hy
      · rename_i hc
        injection hy with hy
        subst hy
        exact ⟨⟨hc.1, hc.2.1⟩, Or.inr rfl⟩
      · exact ⟨h y hy, Or.inl hy⟩
    obtain ⟨h1, h2, h3⟩ := foldl_good l (better n pl o d) (fun y hy => (hgood y hy).1) x hx
    refine ⟨h1, h2, ?_⟩
    rcases h3 with h3 | h3
    · rcases (hgood x h3).2 with h4 | h4
      · exact Or.inl h4
      · exact Or.inr (by simp [h4])
    · exact Or.inr (List.mem_cons_of_mem _ h3)
theorem foldl_none {n : Nat} {pl : List Nat} : ∀ (l : List Nat) (o : Option Nat), l.foldl (better n pl) o = none ↔ o = none ∧ ∀ d ∈ l, n ≤ d ∨ d ∈ pl
  | [], o => by simp
  | d :: l, o => by
    rw [List.foldl_cons, foldl_none l]
    unfold better
    by_cases hc : d < n ∧ d ∉ pl ∧ ∀ x, o = some x → d < x
    · rw [if_pos hc]
      constructor
      · intro h; exact absurd h.1 (by simp)
      · intro h
        rcases h.2 d (by simp) with h1 | h1
        · omega
        · exact absurd h1 hc.2.1
    · rw [if_neg hc]
      constructor
      · intro h
        refine ⟨h.1, fun x hx => ?_⟩
        rcases List.mem_cons.1 hx with rfl | hx
        · refine Classical.byContradiction (fun hno => hc ?_)
          have h1 := not_or.1 hno
          exact ⟨by omega, h1.2, fun y hy => by rw [h.1] at hy; cases hy⟩
        · exact h.2 x hx
      · intro h
        exact ⟨h.1, fun x hx => h.2 x (List.mem_cons_of_mem _ hx)⟩
theorem minW_none {n : Nat} {pl l : List Nat} : minW n pl l = none ↔ ∀ d ∈ l, n ≤ d ∨ d ∈ pl := by
  unfold minW; rw [foldl_none]; simp
theorem minW_some {n : Nat} {pl l : List Nat} {x : Nat} (h : minW n pl l = some x) : x < n ∧ x ∉ pl ∧ x ∈ l := by
  obtain ⟨h1, h2, h3⟩ := foldl_good l none (by simp) x h
  exact ⟨h1, h2, by simpa using h3⟩
theorem ready_iff {deps : Nat → List Nat} {n : Nat} {pl : List Nat} {i : Nat} : ready deps n pl i = true ↔ i ∉ pl ∧ minW n pl (deps i) = none := by
  rw [minW_none]
  simp [ready]

/-! ### Maps whose keys are names -/
def named (l : List Nat) (f : Nat → Value) : SM := l.map fun i => (nm i, f i)
theorem getM_named (f : Nat → Value) {d : Nat} (hd : d < 676) : ∀ (l : List Nat), (∀ x ∈ l, x < 676) → getM (named l f) (nm d) = if d ∈ l then some (f d) else none
  | [], _ => rfl
  | x :: l, h => by
    simp only [named, List.map_cons, getM]
    by_cases e : d = x
    · subst e; simp
    · have hne : nm d ≠ nm x := fun h' => e (nm_inj hd (h x (by simp)) h')
      rw [if_neg hne]
      have := getM_named f hd l (fun y hy => h y (List.mem_cons_of_mem _ hy))
      unfold named at this
      rw [this]
      simp [e]
theorem named_nodup {f : Nat → Value} {l : List Nat} (h : l.Nodup) (hl : ∀ x ∈ l, x < 676) : ((named l f).map (·.1)).Nodup := by
  have : (named l f).map (·.1) = l.map nm := by simp [named]
  rw [this]
  rw [List.nodup_iff_pairwise_ne, List.pairwise_map]
  refine List.Pairwise.imp_of_mem (fun {a b} ha hb hab he => hab (nm_inj (hl a ha) (hl b hb) he)) (List.nodup_iff_pairwise_ne.1 h)

/-- A slice of names. -/
def IsNames (w : World) (v : Value) (l : List Nat) : Prop := ∃ ao cap, v = .slice ao l.length cap ∧ (l ≠ [] → ∃ b off, ao = some ⟨b, off, none⟩ ∧ b < w.heap.size ∧ ∀ j, j < l.length → w.cell? ⟨b, off + j, none⟩ = some (.string (nm (l.getD j 0))))

/-! ### Names compared -/
theorem nm_toList (x : Nat) : (nm x).toList = nmL x := by rw [ByteArray.toList_eq]; rfl
theorem empty_toList : (⟨#[]⟩ : ByteArray).toList = [] := by rw [ByteArray.toList_eq]
theorem nm_eq_empty (x : Nat) : ((nm x).toList == (⟨#[]⟩ : ByteArray).toList) = false := by rw [nm_toList, empty_toList]; rfl
theorem nm_eq_nm {x y : Nat} (hx : x < 676) (hy : y < 676) : ((nm x).toList == (nm y).toList) = decide (x = y) := by
  rw [nm_toList, nm_toList]
  by_cases h : x = y
  · subst h; simp
  · have h1 : ¬ nmL x = nmL y := fun e => h (nmL_inj hx hy e)
    simp [h, h1]
theorem nm_less {x y : Nat} (hx : x < 676) (hy : y < 676) : Op.bytesLess (nm x).toList (nm y).toList = decide (x < y) := by
  rw [nm_toList, nm_toList]
  have e1 : (UInt8.ofNat (97 + x / 26)).toNat = 97 + x / 26 := by rw [UInt8.toNat_ofNat']; omega
  have e2 : (UInt8.ofNat (97 + y / 26)).toNat = 97 + y / 26 := by rw [UInt8.toNat_ofNat']; omega
  have e3 : (UInt8.ofNat (97 + x % 26)).toNat = 97 + x % 26 := by rw [UInt8.toNat_ofNat']; omega
  have e4 : (UInt8.ofNat (97 + y % 26)).toNat = 97 + y % 26 := by rw [UInt8.toNat_ofNat']; omega
  have l1 : decide (UInt8.ofNat (97 + x / 26) < UInt8.ofNat (97 + y / 26)) = decide (x / 26 < y / 26) := by
    rw [decide_eq_decide, UInt8.lt_iff_toNat_lt, e1, e2]; omega
  have l2 : decide (UInt8.ofNat (97 + x % 26) < UInt8.ofNat (97 + y % 26)) = decide (x % 26 < y % 26) := by
    rw [decide_eq_decide, UInt8.lt_iff_toNat_lt, e3, e4]; omega
  have l3 : (UInt8.ofNat (97 + x / 26) == UInt8.ofNat (97 + y / 26)) = decide (x / 26 = y / 26) := by
    rw [Bool.eq_iff_iff, beq_iff_eq, decide_eq_true_eq, ← UInt8.toNat_inj, e1, e2]; omega
  have l0 : decide ((82 : UInt8) < 82) = false := by decide
  simp only [nmL, Op.bytesLess, l0, l1, l2, l3, Bool.false_or, beq_self_eq_true, Bool.true_and, Bool.and_false, Bool.or_false]
  rw [Bool.eq_iff_iff]
  simp
  omega
end Go.Proofs.YbulkcxswFmt
