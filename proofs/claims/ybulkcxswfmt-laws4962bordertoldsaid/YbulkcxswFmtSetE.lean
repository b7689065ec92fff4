import Derived.Test.YbulkcxswFmtRes
namespace Go.Proofs.YbulkcxswFmt
open Go Go.RowKit Go.Deep

/-! ### The law's last part -/
theorem flat_get {f : Nat → List Value} {c : Nat} (hf : ∀ x, (f x).length = c) : ∀ (l : List Nat) (m t : Nat), t < c → (l.flatMap f)[m * c + t]? = (l[m]?).bind (fun x => (f x)[t]?)
  | [], m, t, _ => by simp
  | x :: l, 0, t, ht => by
    rw [List.flatMap_cons, List.getElem?_append_left (by rw [hf]; omega)]
    simp
  | x :: l, m + 1, t, ht => by
    rw [List.flatMap_cons, List.getElem?_append_right (by rw [hf, Nat.add_mul]; omega), hf, show (m + 1) * c + t - c = m * c + t from by rw [Nat.add_mul]; omega, flat_get hf l m t ht]
    simp
theorem res_open {w : World} {bt n base : Nat} {pl : List Nat} {cu : Nat → Bool} {ty po : Nat → ByteArray} {N : Nat → Nat → Bool} {v : Value} (h : ResRow w bt n base pl cu ty po N v n) (hpl : pl.length = n) :
    ∃ vo vc, ∃ vs : Nat → Value, v = .slice vo n vc ∧ (∀ x ∈ pl, IsRow w [bt] (vs x) (lst n (N x)) enS) ∧ (0 < n → ∃ g, vo = some ⟨g, 0, none⟩ ∧ g < w.heap.size ∧ base ≤ g ∧ ∀ m x, pl[m]? = some x →
      w.cell? ⟨g, m * 5, none⟩ = some (.string (nm x)) ∧ w.cell? ⟨g, m * 5 + 1, none⟩ = some (.string (ty x)) ∧ w.cell? ⟨g, m * 5 + 2, none⟩ = some (.bool (cu x)) ∧ w.cell? ⟨g, m * 5 + 3, none⟩ = some (vs x) ∧ w.cell? ⟨g, m * 5 + 4, none⟩ = some (.string (po x))) := by
  obtain ⟨vs, hown, hrows⟩ := h
  rw [List.take_of_length_le (by omega)] at hown hrows
  rcases hown.2 with ⟨rfl, h0⟩ | ⟨g, cap, cur, rfl, hb, hg, _⟩
  · exact ⟨none, 0, vs, by rw [h0], hrows, fun h => by omega⟩
  · refine ⟨_, cap, vs, rfl, hrows, fun _ => ⟨g, rfl, (Array.getElem?_eq_some_iff.1 hg).1, hb, fun m x hx => ?_⟩⟩
    have hc : ∀ t u, t < 5 → (resCells cu ty po vs x)[t]? = some u → w.cell? ⟨g, m * 5 + t, none⟩ = some u := fun t u ht hu => by
      have := hown.cells (g := g) rfl (m * 5 + t) u (by rw [flat_get (c := 5) (fun _ => rfl) pl m t ht, hx]; exact hu)
      rwa [Addr.add_lit, Nat.zero_add] at this
    exact ⟨hc 0 _ (by omega) rfl, hc 1 _ (by omega) rfl, hc 2 _ (by omega) rfl, hc 3 _ (by omega) rfl, hc 4 _ (by omega) rfl⟩
structure E7 (wq wr : World) (Q0 k m : Nat) (pl : List Nat) (N : Nat → Nat → Bool) (bx : Nat → Nat) : Prop where
  kept : Kept [Q0] wq wr
  row : wr.rowIs Q0 40 k (fun x => if x ∈ pl.take m then .slice (some ⟨bx x, 0, none⟩) k k else .slice none 0 0)
  sets : ∀ x ∈ pl.take m, Q0 < bx x ∧ wr.rowIs (bx x) 4 k (fun j => .bool (N x j))
theorem E7.start {w2 : World} {k : Nat} (pl : List Nat) (N : Nat → Nat → Bool) (bx : Nat → Nat) : E7 (w2.alloc (.cells (madeCells #[.slice none 0 0] k) 40)) (w2.alloc (.cells (madeCells #[.slice none 0 0] k) 40)) w2.heap.size k 0 pl N bx where
  kept := Kept.refl _ _
  row := (World.rowIs_made w2 (.slice none 0 0) k 40).congr (fun x _ => by simp)
  sets := by simp
theorem E7.step {wq wr wx wy : World} {Q0 k m i S0 : Nat} {pl : List Nat} {N : Nat → Nat → Bool} {bx : Nat → Nat} (h : E7 wq wr Q0 k m pl N bx) (hQ : Q0 < wr.heap.size) (hit : i ∉ pl.take m) (htk : pl.take (m + 1) = pl.take m ++ [i]) (hS : wr.heap.size ≤ S0)
    (kx : Kept [] wr wx) (hset : wx.rowIs S0 4 k (fun j => .bool (N i j))) (ky : Kept [] (wx.setCell ⟨Q0, i, none⟩ (.slice (some ⟨S0, 0, none⟩) k k)) wy) :
    E7 wq wy Q0 k (m + 1) pl N (fun x => if x = i then S0 else bx x) := by
  have ks : Kept [Q0] wx (wx.setCell ⟨Q0, i, none⟩ (.slice (some ⟨S0, 0, none⟩) k k)) := (Kept.refl _ wx).setCell (fun _ => by simp) _
  have kall : Kept [Q0] wr wy := ((kx.mono (by simp)).then ks).then (ky.mono (by simp))
  refine ⟨h.kept.then kall, ?_, fun x hx => ?_⟩
  · refine (ky.row ((kx.row h.row (by simp)).set i _) (by simp)).congr (fun x _ => ?_)
    rw [htk]
    by_cases e : x = i
    · simp [e]
    · simp [e]
  · rw [htk] at hx
    by_cases e : x = i
    · subst e
      simp only [if_true]
      exact ⟨by omega, ky.row (ks.row hset (by simp; omega)) (by simp)⟩
    · have hx2 : x ∈ pl.take m := by
        rcases List.mem_append.1 hx with h1 | h1
        · exact h1
        · exact absurd (by simpa using h1) e
      simp only [if_neg e]
      exact ⟨(h.sets x hx2).1, kall.row (h.sets x hx2).2 (by have := (h.sets x hx2).1; simp; omega)⟩
end Go.Proofs.YbulkcxswFmt
