import Derived.Lib.BitFns
import Derived.Lib.ItoaNum
namespace Go.Proofs.Ybulkcxqe
open Go

/-! ### The key of a power -/
/-- The six digits after the first. -/
def mant (u d : Nat) : Nat := (if 7 < d then u / 2 ^ (d - 7) else u * 2 ^ (7 - d)) % 64
/-- The key of a power, read as 64 bits. -/
def kb (u : Nat) : Nat := if u = 0 then 65472 else (Lib.bitLen u - 1) * 64 + mant u (Lib.bitLen u)

theorem len_bounds {u : Nat} (h0 : u ≠ 0) (h : u < 18446744073709551616) : 1 ≤ Lib.bitLen u ∧ Lib.bitLen u ≤ 64 ∧ 2 ^ (Lib.bitLen u - 1) ≤ u ∧ u < 2 ^ Lib.bitLen u := by
  have h1 := Lib.bitLenAux_bounds 64 u (by simpa using h) h0
  exact ⟨h1.1, Lib.bitLen_le u 64 (by omega) (by simpa using h), h1.2⟩
theorem len_zero : Lib.bitLen 0 = 0 := by decide
theorem mant_lt (u d : Nat) : mant u d < 64 := Nat.mod_lt _ (by omega)
theorem kb_le {u : Nat} (h : u < 18446744073709551616) : kb u ≤ 65472 := by
  unfold kb
  split
  · omega
  · rename_i h0
    have := len_bounds h0 h
    have := mant_lt u (Lib.bitLen u)
    omega
theorem len_unique {u d : Nat} (h0 : u ≠ 0) (h : u < 18446744073709551616) (h1 : 2 ^ (d - 1) ≤ u) (h2 : u < 2 ^ d) : Lib.bitLen u = d := by
  have hb := len_bounds h0 h
  rcases Nat.lt_trichotomy (Lib.bitLen u) d with hlt | heq | hgt
  · have := Nat.pow_le_pow_right (show 0 < 2 by omega) (show Lib.bitLen u ≤ d - 1 by omega)
    omega
  · exact heq
  · have := Nat.pow_le_pow_right (show 0 < 2 by omega) (show d ≤ Lib.bitLen u - 1 by omega)
    omega
/-- Doubling adds one digit and keeps the six after the first. -/
theorem kb_double {x : Nat} (h0 : x ≠ 0) (h : x < 4294967296) : kb (2 * x) = kb x + 64 ∧ kb x < 2048 := by
  have hb := len_bounds h0 (by omega)
  have hd : Lib.bitLen (2 * x) = Lib.bitLen x + 1 := by
    refine len_unique (by omega) (by omega) ?_ ?_
    · have e : 2 ^ (Lib.bitLen x + 1 - 1) = 2 * 2 ^ (Lib.bitLen x - 1) := by
        rw [Nat.add_sub_cancel, Nat.mul_comm, ← Nat.pow_succ, show (Lib.bitLen x - 1).succ = Lib.bitLen x from by omega]
      omega
    · rw [Nat.pow_succ]; omega
  have hl : Lib.bitLen x ≤ 32 := Lib.bitLen_le x 32 (by omega) (by simpa using h)
  have hm : mant (2 * x) (Lib.bitLen x + 1) = mant x (Lib.bitLen x) := by
    unfold mant
    rcases Nat.lt_trichotomy (Lib.bitLen x) 7 with hlt | heq | hgt
    · rw [if_neg (by omega), if_neg (by omega)]
      have e : 2 ^ (7 - Lib.bitLen x) = 2 * 2 ^ (7 - (Lib.bitLen x + 1)) := by rw [Nat.mul_comm, ← Nat.pow_succ]; congr 1; omega
      rw [e, ← Nat.mul_assoc, Nat.mul_comm 2 x]
    · rw [if_pos (by omega), if_neg (by omega), heq]
      simp
    · rw [if_pos (by omega), if_pos (by omega)]
      have e : 2 ^ (Lib.bitLen x + 1 - 7) = 2 * 2 ^ (Lib.bitLen x - 7) := by rw [Nat.mul_comm, ← Nat.pow_succ]; congr 1; omega
      rw [e, ← Nat.div_div_eq_div_mul, Nat.mul_div_cancel_left _ (by omega)]
  have := mant_lt x (Lib.bitLen x)
  unfold kb
  rw [if_neg h0, if_neg (by omega), hd, hm]
  omega

/-! ### Counting -/
def cl (K : Nat → Nat) : Nat → Nat → Nat
  | 0, _ => 0
  | m + 1, v => cl K m v + if K m < v then 1 else 0
def ce (K : Nat → Nat) : Nat → Nat → Nat
  | 0, _ => 0
  | m + 1, v => ce K m v + if K m = v then 1 else 0
theorem cl_succ (K : Nat → Nat) : ∀ m v, cl K m (v + 1) = cl K m v + ce K m v
  | 0, _ => rfl
  | m + 1, v => by
    simp only [cl, ce]
    rw [cl_succ K m v]
    by_cases h1 : K m < v
    · rw [if_pos (by omega), if_pos h1, if_neg (by omega)]; omega
    · by_cases h2 : K m = v
      · rw [if_pos (by omega), if_neg h1, if_pos h2]; omega
      · rw [if_neg (by omega), if_neg h1, if_neg h2]; omega
theorem cl_le (K : Nat → Nat) : ∀ m v, cl K m v ≤ m
  | 0, _ => Nat.le_refl _
  | m + 1, v => by have := cl_le K m v; simp only [cl]; split <;> omega
theorem cl_mono (K : Nat → Nat) : ∀ m {v u}, v ≤ u → cl K m v ≤ cl K m u
  | 0, _, _, _ => Nat.le_refl _
  | m + 1, v, u, h => by
    have := cl_mono K m h
    simp only [cl]
    split <;> split <;> omega
theorem ce_mono (K : Nat → Nat) (v : Nat) : ∀ {m p}, m ≤ p → ce K m v ≤ ce K p v := by
  intro m p h
  induction p with
  | zero => have : m = 0 := by omega
            subst this; exact Nat.le_refl _
  | succ p ih =>
    rcases Nat.lt_or_ge p m with h1 | h1
    · have : m = p + 1 := by omega
      subst this; exact Nat.le_refl _
    · have := ih h1
      simp only [ce]; omega
theorem ce_lt (K : Nat → Nat) {k p : Nat} (h : k < p) : ce K k (K k) < ce K p (K k) := by
  have h1 := ce_mono K (K k) (show k + 1 ≤ p from h)
  simp only [ce, if_true] at h1
  omega
theorem cl_low (K : Nat → Nat) {lo : Nat} : ∀ m, (∀ i, i < m → lo ≤ K i) → cl K m lo = 0
  | 0, _ => rfl
  | m + 1, h => by
    simp only [cl]
    rw [cl_low K m (fun i hi => h i (by omega)), if_neg (by have := h m (by omega); omega)]

/-- How many come before k: those of a lower key, and those of the same key that were given before. -/
def pos (K : Nat → Nat) (n k : Nat) : Nat := cl K n (K k) + ce K k (K k)
theorem pos_lt (K : Nat → Nat) {n k : Nat} (h : k < n) : pos K n k < n := by
  have h1 := ce_lt K h
  have h2 := cl_succ K n (K k)
  have h3 := cl_le K n (K k + 1)
  unfold pos; omega
theorem pos_mono_key (K : Nat → Nat) {n i k : Nat} (hi : i < n) (h : K i < K k) : pos K n i < pos K n k := by
  have h1 := ce_lt K hi
  have h2 := cl_succ K n (K i)
  have h3 := cl_mono K n (show K i + 1 ≤ K k from h)
  unfold pos; omega
theorem pos_mono_same (K : Nat → Nat) {n i k : Nat} (h : i < k) (he : K i = K k) : pos K n i < pos K n k := by
  have h1 := ce_lt K h
  unfold pos; rw [he] at *; omega
theorem pos_ne (K : Nat → Nat) {n i k : Nat} (hi : i < n) (hk : k < n) (h : i ≠ k) : pos K n i ≠ pos K n k := by
  rcases Nat.lt_trichotomy (K i) (K k) with h1 | h1 | h1
  · exact Nat.ne_of_lt (pos_mono_key K hi h1)
  · rcases Nat.lt_or_gt_of_ne h with h2 | h2
    · exact Nat.ne_of_lt (pos_mono_same K h2 h1)
    · exact Nat.ne_of_gt (pos_mono_same K h2 h1.symm)
  · exact Nat.ne_of_gt (pos_mono_key K hk h1)

/-! ### In a sorted list of all places, k stands at 'pos k' -/
def Lex (K : Nat → Nat) (i k : Nat) : Prop := K i < K k ∨ (K i = K k ∧ i < k)
def lexB (K : Nat → Nat) (v k i : Nat) : Bool := decide (K i < v) || (decide (K i = v) && decide (i < k))
theorem lexB_iff (K : Nat → Nat) (i k : Nat) : lexB K (K k) k i = true ↔ Lex K i k := by simp [lexB, Lex]
theorem count_range (K : Nat → Nat) (v k : Nat) : ∀ m, (List.range m).countP (lexB K v k) = cl K m v + ce K (min m k) v
  | 0 => by simp [cl, ce]
  | m + 1 => by
    rw [List.range_succ, List.countP_append, count_range K v k m]
    simp only [List.countP_cons, List.countP_nil, cl]
    rcases Nat.lt_or_ge m k with h | h
    · have e1 : min m k = m := by omega
      have e2 : min (m + 1) k = m + 1 := by omega
      rw [e1, e2]
      simp only [ce, lexB]
      by_cases h1 : K m < v
      · have h2 : ¬ K m = v := by omega
        simp [h1, h2]; omega
      · by_cases h2 : K m = v
        · simp [h2, h]; omega
        · simp [h1, h2]
    · have e1 : min m k = k := by omega
      have e2 : min (m + 1) k = k := by omega
      have h3 : ¬ m < k := by omega
      rw [e1, e2]
      simp only [lexB]
      by_cases h1 : K m < v
      · simp [h1]; omega
      · simp [h1, h3]
theorem pos_count (K : Nat → Nat) {n k : Nat} (h : k < n) : pos K n k = (List.range n).countP (lexB K (K k) k) := by
  rw [count_range, show min n k = k from by omega]; rfl
theorem sorted_pos (K : Nat → Nat) {n : Nat} {L : List Nat} (hp : L.Perm (List.range n)) (hs : L.Pairwise (Lex K)) {a : Nat} (ha : a < L.length) : pos K n L[a] = a := by
  have hk : L[a] < n := List.mem_range.1 (hp.mem_iff.1 (List.getElem_mem ha))
  rw [pos_count K hk, ← hp.countP_eq]
  have hpw := List.pairwise_iff_getElem.1 hs
  have hsplit : L.countP (lexB K (K L[a]) L[a]) = (L.take a).countP (lexB K (K L[a]) L[a]) + (L.drop a).countP (lexB K (K L[a]) L[a]) := by
    rw [← List.countP_append, List.take_append_drop]
  have h1 : (L.take a).countP (lexB K (K L[a]) L[a]) = a := by
    have hl : (L.take a).length = a := by simp; omega
    have := List.countP_eq_length (p := lexB K (K L[a]) L[a]) (l := L.take a)
    rw [hl] at this
    refine this.2 (fun x hx => ?_)
    obtain ⟨i, hi, rfl⟩ := List.getElem_of_mem hx
    rw [List.getElem_take]
    exact (lexB_iff K _ _).2 (hpw i a (by simp at hi; omega) ha (by simp at hi; omega))
  have h2 : (L.drop a).countP (lexB K (K L[a]) L[a]) = 0 := by
    refine List.countP_eq_zero.2 (fun x hx hb => ?_)
    obtain ⟨i, hi, rfl⟩ := List.getElem_of_mem hx
    rw [List.getElem_drop] at hb
    have hb' := (lexB_iff K _ _).1 hb
    have hi' : a + i < L.length := by simp at hi; omega
    rcases Nat.eq_zero_or_pos i with h0 | hpos
    · subst h0
      unfold Lex at hb'
      simp at hb'
    · have h3 := hpw a (a + i) ha hi' (by omega)
      unfold Lex at hb' h3
      omega
  omega
end Go.Proofs.Ybulkcxqe
