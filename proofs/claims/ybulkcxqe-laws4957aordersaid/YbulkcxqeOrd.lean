import Derived.Test.YbulkcxqeKeys
namespace Go.Proofs.Ybulkcxqe
open Go

/-! ### The plain order of the places -/
/-- S lays the first i places in order. -/
def Sorted (K : Nat → Nat) (S : Nat → Nat) (i : Nat) : Prop := (∀ x, x < i → S x < i) ∧ ∀ x y, x < y → y < i → Lex K (S x) (S y)

theorem lex_trans {K : Nat → Nat} {a b c : Nat} (h1 : Lex K a b) (h2 : Lex K b c) : Lex K a c := by unfold Lex at *; omega
theorem pos_mono {K : Nat → Nat} {n a b : Nat} (ha : a < n) (h : Lex K a b) : pos K n a < pos K n b := by
  rcases h with h | h
  · exact pos_mono_key K ha h
  · exact pos_mono_same K h.2 h.1

/-- Where place i is put in at j. -/
def ins (S : Nat → Nat) (i j x : Nat) : Nat := if x < j then S x else if x = j then i else if x ≤ i then S (x - 1) else x
theorem ins_sorted {K S : Nat → Nat} {i j : Nat} (h : Sorted K S i) (hj : j ≤ i) (h1 : j = 0 ∨ K (S (j - 1)) ≤ K i) (h2 : ∀ x, j ≤ x → x < i → K i < K (S x)) : Sorted K (ins S i j) (i + 1) := by
  have hlow : ∀ x, x < j → Lex K (S x) i := by
    intro x hx
    have hlast : Lex K (S (j - 1)) i := by
      have h3 := h.1 (j - 1) (by omega)
      rcases h1 with h1 | h1
      · omega
      · unfold Lex; omega
    rcases Nat.lt_or_ge x (j - 1) with h4 | h4
    · exact lex_trans (h.2 x (j - 1) h4 (by omega)) hlast
    · obtain rfl : x = j - 1 := by omega
      exact hlast
  have hhigh : ∀ x, j ≤ x → x < i → Lex K i (S x) := fun x hx hxi => Or.inl (h2 x hx hxi)
  refine ⟨fun x hx => ?_, fun x y hxy hy => ?_⟩
  · unfold ins
    split
    · have := h.1 x (by omega); omega
    · split
      · omega
      · rw [if_pos (by omega)]
        have := h.1 (x - 1) (by omega); omega
  · unfold ins
    by_cases hxj : x < j
    · rw [if_pos hxj]
      by_cases hyj : y < j
      · rw [if_pos hyj]; exact h.2 x y hxy (by omega)
      · rw [if_neg hyj]
        by_cases hye : y = j
        · rw [if_pos hye]; exact hlow x hxj
        · rw [if_neg hye, if_pos (by omega)]; exact h.2 x (y - 1) (by omega) (by omega)
    · rw [if_neg hxj, if_neg (show ¬ y < j by omega), if_neg (show ¬ y = j by omega), if_pos (show y ≤ i by omega)]
      by_cases hxe : x = j
      · rw [if_pos hxe]; exact hhigh (y - 1) (by omega) (by omega)
      · rw [if_neg hxe, if_pos (by omega)]; exact h.2 (x - 1) (y - 1) (by omega) (by omega)

/-- A sorted row of all n places bears at a the place whose count is a. -/
theorem sorted_id {K S : Nat → Nat} {n : Nat} (h : Sorted K S n) {a : Nat} (ha : a < n) : pos K n (S a) = a := by
  have hm : ∀ x y, x < y → y < n → pos K n (S x) < pos K n (S y) := fun x y hxy hy => pos_mono (h.1 x (by omega)) (h.2 x y hxy hy)
  have lo : ∀ x, x < n → x ≤ pos K n (S x) := by
    intro x
    induction x with
    | zero => intro _; omega
    | succ x ih => intro hx; have := ih (by omega); have := hm x (x + 1) (by omega) hx; omega
  have hi : ∀ d x, x + d + 1 = n → pos K n (S x) ≤ x := by
    intro d
    induction d with
    | zero => intro x hx; have := pos_lt K (h.1 x (by omega)); omega
    | succ d ih => intro x hx; have := ih (x + 1) (by omega); have := hm x (x + 1) (by omega) (by omega); omega
  have := lo a ha
  have := hi (n - 1 - a) a (by omega)
  omega
theorem find_place {K S : Nat → Nat} (i : Nat) : ∃ j, j ≤ i ∧ (j = 0 ∨ K (S (j - 1)) ≤ K i) ∧ ∀ x, j ≤ x → x < i → K i < K (S x) := by
  have key : ∀ d, d ≤ i → (∃ j, j ≤ i ∧ (j = 0 ∨ K (S (j - 1)) ≤ K i) ∧ ∀ x, j ≤ x → x < i → K i < K (S x)) ∨ ∀ x, i - d ≤ x → x < i → K i < K (S x) := by
    intro d
    induction d with
    | zero => intro _; exact Or.inr (fun x h1 h2 => by omega)
    | succ d ih =>
      intro hd
      rcases ih (by omega) with h | h
      · exact Or.inl h
      · rcases Nat.lt_or_ge (K i) (K (S (i - d - 1))) with h1 | h1
        · refine Or.inr (fun x hx1 hx2 => ?_)
          rcases Nat.lt_or_ge x (i - d) with h3 | h3
          · obtain rfl : x = i - d - 1 := by omega
            exact h1
          · exact h x h3 hx2
        · exact Or.inl ⟨i - d, by omega, Or.inr h1, h⟩
  rcases key i (Nat.le_refl _) with h | h
  · exact h
  · exact ⟨0, by omega, Or.inl rfl, fun x _ h2 => h x (by omega) h2⟩
theorem exists_sorted (K : Nat → Nat) : ∀ n, ∃ S, Sorted K S n
  | 0 => ⟨fun x => x, fun x h => absurd h (by omega), fun x y _ h => absurd h (by omega)⟩
  | n + 1 => by
    obtain ⟨S, hS⟩ := exists_sorted K n
    obtain ⟨j, hj, h1, h2⟩ := find_place (K := K) (S := S) n
    exact ⟨_, ins_sorted hS hj h1 h2⟩

/-! ### The count hangs on the keys' order alone -/
theorem cl_iso {K K' : Nat → Nat} {v v' : Nat} : ∀ m, (∀ i, i < m → (K i < v ↔ K' i < v')) → cl K m v = cl K' m v'
  | 0, _ => rfl
  | m + 1, h => by
    simp only [cl, h m (by omega)]
    rw [cl_iso m (fun i hi => h i (by omega))]
theorem ce_iso {K K' : Nat → Nat} {v v' : Nat} : ∀ m, (∀ i, i < m → (K i = v ↔ K' i = v')) → ce K m v = ce K' m v'
  | 0, _ => rfl
  | m + 1, h => by
    simp only [ce, h m (by omega)]
    rw [ce_iso m (fun i hi => h i (by omega))]
theorem pos_iso {K K' : Nat → Nat} {n k : Nat} (hk : k < n) (h1 : ∀ i j, i < n → j < n → (K i < K j ↔ K' i < K' j)) (h2 : ∀ i j, i < n → j < n → (K i = K j ↔ K' i = K' j)) : pos K n k = pos K' n k := by
  unfold pos
  rw [cl_iso n (fun i hi => h1 i k hi hk), ce_iso k (fun i hi => h2 i k (by omega) hk)]
end Go.Proofs.Ybulkcxqe
