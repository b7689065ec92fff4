import Derived.Test.YbulkcxswFmtCyc
namespace Go.Proofs.YbulkcxswFmt
open Go

/-! ### What each resource needs, plainly -/
def row (cu : Nat → Bool) (n : Nat) (N : Nat → Nat → Bool) (ds : List Nat) (j : Nat) : Bool := ds.any fun d => decide (d < n) && (if cu d then j == d else N d j)
theorem row_nil (cu : Nat → Bool) (n : Nat) (N : Nat → Nat → Bool) (j : Nat) : row cu n N [] j = false := rfl
theorem row_snoc (cu : Nat → Bool) (n : Nat) (N : Nat → Nat → Bool) (ds : List Nat) (d j : Nat) : row cu n N (ds ++ [d]) j = (row cu n N ds j || (decide (d < n) && (if cu d then j == d else N d j))) := by simp [row]
theorem any_congr {ds : List Nat} {f g : Nat → Bool} (h : ∀ d ∈ ds, f d = g d) : ds.any f = ds.any g := by
  induction ds with
  | nil => rfl
  | cons a l ih => rw [List.any_cons, List.any_cons, h a (by simp), ih (fun d hd => h d (by simp [hd]))]
theorem row_congr {cu : Nat → Bool} {n : Nat} {N M : Nat → Nat → Bool} {ds : List Nat} (h : ∀ d ∈ ds, d < n → N d = M d) (j : Nat) : row cu n N ds j = row cu n M ds j := by
  refine any_congr (fun d hd => ?_)
  by_cases hdn : d < n
  · rw [h d hd hdn]
  · simp [hdn]
theorem take_mem {l : List Nat} {k : Nat} {d : Nat} (h : d ∈ l.take k) : ∃ m, ∃ hm : m < l.length, m < k ∧ l[m] = d := by
  obtain ⟨m, hm, e⟩ := List.getElem_of_mem h
  have hm2 : m < k ∧ m < l.length := by rw [List.length_take] at hm; omega
  exact ⟨m, hm2.2, hm2.1, by rw [← e, List.getElem_take]⟩
theorem nodup_at {l : List Nat} (h : l.Nodup) {a b : Nat} (ha : a < l.length) (hb : b < l.length) (e : l[a] = l[b]) : a = b := (List.getElem_inj h).1 e
theorem needs_upto (cu : Nat → Bool) {deps : Nat → List Nat} {n : Nat} {pl : List Nat} (hnd : pl.Nodup) (haf : ∀ k (hk : k < pl.length), ∀ d ∈ deps pl[k], d < n → d ∈ pl.take k) :
    ∀ m, ∃ N : Nat → Nat → Bool, ∀ k (hk : k < pl.length), k < m → ∀ j, N pl[k] j = row cu n N (deps pl[k]) j
  | 0 => ⟨fun _ _ => false, fun k _ h => absurd h (by omega)⟩
  | m + 1 => by
    obtain ⟨N, hN⟩ := needs_upto cu hnd haf m
    by_cases hm : m < pl.length
    · refine ⟨fun x j => if x = pl[m] then row cu n N (deps pl[m]) j else N x j, fun k hk hkm j => ?_⟩
      have hc : row cu n N (deps pl[k]) j = row cu n (fun x j => if x = pl[m] then row cu n N (deps pl[m]) j else N x j) (deps pl[k]) j := by
        refine row_congr (fun d hd hdn => ?_) j
        obtain ⟨a, ha, hak, e⟩ := take_mem (haf k hk d hd hdn)
        have hne : d ≠ pl[m] := fun e2 => by
          have := nodup_at hnd ha hm (e.trans e2)
          omega
        funext j
        simp [hne]
      by_cases hkm2 : k = m
      · subst hkm2
        rw [← hc]
        simp
      · have hne : pl[k] ≠ pl[m] := fun e => hkm2 (nodup_at hnd hk hm e)
        rw [← hc]
        simp [hne, hN k hk (by omega) j]
    · exact ⟨N, fun k hk hkm j => hN k hk (by omega) j⟩
theorem needs_all (cu : Nat → Bool) {deps : Nat → List Nat} {n : Nat} {pl : List Nat} (h : Road deps n pl) : ∃ N : Nat → Nat → Bool, ∀ k (hk : k < pl.length), ∀ j, N pl[k] j = row cu n N (deps pl[k]) j := by
  obtain ⟨N, hN⟩ := needs_upto cu h.nodup h.after pl.length
  exact ⟨N, fun k hk j => hN k hk hk j⟩
def lst (n : Nat) (r : Nat → Bool) : List Nat := (List.range n).filter r
theorem mem_lst {n : Nat} {r : Nat → Bool} {x : Nat} : x ∈ lst n r ↔ x < n ∧ r x = true := by simp [lst]
theorem lst_sorted (n : Nat) (r : Nat → Bool) : (lst n r).Pairwise (· < ·) := List.Pairwise.filter _ List.pairwise_lt_range
theorem lst_le (n : Nat) (r : Nat → Bool) : (lst n r).length ≤ n := by
  have := List.length_filter_le r (List.range n)
  simpa [lst] using this
theorem lst_perm {n : Nat} {r : Nat → Bool} {q : List Nat} (h1 : q.Nodup) (h2 : ∀ x, x ∈ q ↔ x < n ∧ r x = true) : q.Perm (lst n r) :=
  (List.perm_ext_iff_of_nodup h1 ((lst_sorted n r).imp_of_mem (fun _ _ h => by omega))).2 (fun x => by rw [h2, mem_lst])
theorem lst_succ (n : Nat) (r : Nat → Bool) : lst (n + 1) r = lst n r ++ (if r n then [n] else []) := by
  unfold lst
  rw [List.range_succ, List.filter_append]
  by_cases h : r n <;> simp [h]
theorem lst_get_lt {n m : Nat} (r : Nat → Bool) (hm : m < n) (hr : r m = true) : (lst m r).length < (lst n r).length ∧ (lst n r).getD (lst m r).length 0 = m := by
  induction n with
  | zero => omega
  | succ n ih =>
    rw [lst_succ]
    by_cases hmn : m = n
    · subst hmn
      simp [hr]
    · obtain ⟨h1, h2⟩ := ih (by omega)
      refine ⟨by simp; omega, ?_⟩
      rw [List.getD_eq_getElem?_getD, List.getElem?_append_left h1, ← List.getD_eq_getElem?_getD]
      exact h2
end Go.Proofs.YbulkcxswFmt
