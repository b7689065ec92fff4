import Derived.Test.YbulkcxswFmtReg
namespace Go.Proofs.YbulkcxswFmt
open Go Go.RowKit Go.Deep
/-! ### The region that lays one more resource behind the order -/
structure Reg27 (W0 W1 W2 W3 : World) (l : Array Bool) (w : World) : Prop where
  c20 : l.getD 20 false = true → l.getD 17 false = true
  c17 : l.getD 17 false = true → l.getD 16 false = true ∧ l.getD 4 false = true
  c16 : l.getD 16 false = true → l.getD 15 false = true
  c15 : l.getD 15 false = true → l.getD 7 false = true ∧ l.getD 9 false = true ∧ l.getD 12 false = true ∧ l.getD 14 false = true
  w0 : l.getD 16 false = false → w = W0
  w1 : l.getD 16 false = true → l.getD 17 false = false → w = W1
  w2 : l.getD 17 false = true → l.getD 20 false = false → w = W2
  w3 : l.getD 20 false = true → w = W3
theorem mono_set {l : Array Bool} {i j : Nat} (hi : i < l.size) (h : l.getD j false = true) : (l.setIfInBounds i true).getD j false = true := by
  rw [getD_set_bool hi]
  by_cases e : i = j
  · rw [if_pos e]
  · rw [if_neg e]; exact h
theorem same_set {l : Array Bool} {i j : Nat} (hi : i < l.size) (h : i ≠ j) : (l.setIfInBounds i true).getD j false = l.getD j false := by rw [getD_set_bool hi, if_neg h]
theorem now_set {l : Array Bool} {i : Nat} (hi : i < l.size) : (l.setIfInBounds i true).getD i false = true := by rw [getD_set_bool hi, if_pos rfl]
theorem Reg27.start (W0 W1 W2 W3 : World) (n : Nat) : Reg27 W0 W1 W2 W3 (Array.replicate n false) W0 := by
  have h : ∀ j, (Array.replicate n false).getD j false = false := fun j => by
    simp only [Array.getD_eq_getD_getElem?, Array.getElem?_replicate]
    by_cases e : j < n
    · rw [if_pos e]; rfl
    · rw [if_neg e]; rfl
  refine ⟨?_, ?_, ?_, ?_, fun _ => rfl, ?_, ?_, ?_⟩
  · rw [h]; intro e; cases e
  · rw [h]; intro e; cases e
  · rw [h]; intro e; cases e
  · rw [h]; intro e; cases e
  · rw [h]; intro e; cases e
  · rw [h]; intro e; cases e
  · rw [h]; intro e; cases e
theorem Reg27.keep {W0 W1 W2 W3 : World} {l : Array Bool} {w : World} (h : Reg27 W0 W1 W2 W3 l w) {i : Nat} (hi : i < l.size) (h15 : i ≠ 15) (h16 : i ≠ 16) (h17 : i ≠ 17) (h20 : i ≠ 20) : Reg27 W0 W1 W2 W3 (l.setIfInBounds i true) w := by
  have s15 := same_set (l := l) hi h15
  have s16 := same_set (l := l) hi h16
  have s17 := same_set (l := l) hi h17
  have s20 := same_set (l := l) hi h20
  refine ⟨?_, ?_, ?_, ?_, ?_, ?_, ?_, ?_⟩
  · rw [s20, s17]; exact h.c20
  · rw [s17, s16]; exact fun e => ⟨(h.c17 e).1, mono_set hi (h.c17 e).2⟩
  · rw [s16, s15]; exact h.c16
  · rw [s15]; exact fun e => ⟨mono_set hi (h.c15 e).1, mono_set hi (h.c15 e).2.1, mono_set hi (h.c15 e).2.2.1, mono_set hi (h.c15 e).2.2.2⟩
  · rw [s16]; exact h.w0
  · rw [s16, s17]; exact h.w1
  · rw [s17, s20]; exact h.w2
  · rw [s20]; exact h.w3
theorem Reg27.s15 {W0 W1 W2 W3 : World} {l : Array Bool} {w : World} (h : Reg27 W0 W1 W2 W3 l w) (hs : l.size = 21) (h7 : l.getD 7 false = true) (h9 : l.getD 9 false = true) (h12 : l.getD 12 false = true) (h14 : l.getD 14 false = true) : Reg27 W0 W1 W2 W3 (l.setIfInBounds 15 true) w := by
  have hi : 15 < l.size := by omega
  have s16 := same_set (l := l) hi (j := 16) (by omega)
  have s17 := same_set (l := l) hi (j := 17) (by omega)
  have s20 := same_set (l := l) hi (j := 20) (by omega)
  refine ⟨?_, ?_, ?_, ?_, ?_, ?_, ?_, ?_⟩
  · rw [s20, s17]; exact h.c20
  · rw [s17, s16]; exact fun e => ⟨(h.c17 e).1, mono_set hi (h.c17 e).2⟩
  · exact fun _ => now_set hi
  · exact fun _ => ⟨mono_set hi h7, mono_set hi h9, mono_set hi h12, mono_set hi h14⟩
  · rw [s16]; exact h.w0
  · rw [s16, s17]; exact h.w1
  · rw [s17, s20]; exact h.w2
  · rw [s20]; exact h.w3
theorem Reg27.s16 {W0 W1 W2 W3 : World} {l : Array Bool} {w : World} (h : Reg27 W0 W1 W2 W3 l w) (hs : l.size = 21) (h15 : l.getD 15 false = true) (hu : l.getD 16 false = false) : Reg27 W0 W1 W2 W3 (l.setIfInBounds 16 true) W1 := by
  have hi : 16 < l.size := by omega
  have s15 := same_set (l := l) hi (j := 15) (by omega)
  have s17 := same_set (l := l) hi (j := 17) (by omega)
  have s20 := same_set (l := l) hi (j := 20) (by omega)
  have n17 : l.getD 17 false = false := by
    cases e : l.getD 17 false with
    | false => rfl
    | true => rw [(h.c17 e).1] at hu; cases hu
  have n20 : l.getD 20 false = false := by
    cases e : l.getD 20 false with
    | false => rfl
    | true => rw [h.c20 e] at n17; cases n17
  refine ⟨?_, ?_, ?_, ?_, ?_, ?_, ?_, ?_⟩
  · rw [s20, n20]; intro e; cases e
  · rw [s17, n17]; intro e; cases e
  · intro _; rw [s15]; exact h15
  · exact fun _ => ⟨mono_set hi (h.c15 h15).1, mono_set hi (h.c15 h15).2.1, mono_set hi (h.c15 h15).2.2.1, mono_set hi (h.c15 h15).2.2.2⟩
  · rw [now_set hi]; intro e; cases e
  · exact fun _ _ => rfl
  · rw [s17, n17]; intro e; cases e
  · rw [s20, n20]; intro e; cases e
theorem Reg27.s17 {W0 W1 W2 W3 : World} {l : Array Bool} {w : World} (h : Reg27 W0 W1 W2 W3 l w) (hs : l.size = 21) (h16 : l.getD 16 false = true) (h4 : l.getD 4 false = true) (hu : l.getD 17 false = false) : Reg27 W0 W1 W2 W3 (l.setIfInBounds 17 true) W2 := by
  have hi : 17 < l.size := by omega
  have s15 := same_set (l := l) hi (j := 15) (by omega)
  have s16 := same_set (l := l) hi (j := 16) (by omega)
  have s20 := same_set (l := l) hi (j := 20) (by omega)
  have h15 := h.c16 h16
  have n20 : l.getD 20 false = false := by
    cases e : l.getD 20 false with
    | false => rfl
    | true => rw [h.c20 e] at hu; cases hu
  refine ⟨?_, ?_, ?_, ?_, ?_, ?_, ?_, ?_⟩
  · rw [s20, n20]; intro e; cases e
  · exact fun _ => ⟨mono_set hi h16, mono_set hi h4⟩
  · intro _; rw [s15]; exact h15
  · exact fun _ => ⟨mono_set hi (h.c15 h15).1, mono_set hi (h.c15 h15).2.1, mono_set hi (h.c15 h15).2.2.1, mono_set hi (h.c15 h15).2.2.2⟩
  · rw [s16, h16]; intro e; cases e
  · rw [now_set hi]; intro _ e; cases e
  · exact fun _ _ => rfl
  · rw [s20, n20]; intro e; cases e
theorem Reg27.s20 {W0 W1 W2 W3 : World} {l : Array Bool} {w : World} (h : Reg27 W0 W1 W2 W3 l w) (hs : l.size = 21) (h17 : l.getD 17 false = true) : Reg27 W0 W1 W2 W3 (l.setIfInBounds 20 true) W3 := by
  have hi : 20 < l.size := by omega
  have s15 := same_set (l := l) hi (j := 15) (by omega)
  have s16 := same_set (l := l) hi (j := 16) (by omega)
  have s17 := same_set (l := l) hi (j := 17) (by omega)
  have h16 := (h.c17 h17).1
  have h15 := h.c16 h16
  refine ⟨?_, ?_, ?_, ?_, ?_, ?_, ?_, ?_⟩
  · intro _; rw [s17]; exact h17
  · exact fun _ => ⟨mono_set hi h16, mono_set hi (h.c17 h17).2⟩
  · intro _; rw [s15]; exact h15
  · exact fun _ => ⟨mono_set hi (h.c15 h15).1, mono_set hi (h.c15 h15).2.1, mono_set hi (h.c15 h15).2.2.1, mono_set hi (h.c15 h15).2.2.2⟩
  · rw [s16, h16]; intro e; cases e
  · rw [s17, h17]; intro _ e; cases e
  · rw [now_set hi]; intro _ e; cases e
  · exact fun _ => rfl
theorem Reg27.pure {W0 W1 W2 W3 : World} {l : Array Bool} {w : World} (h : Reg27 W0 W1 W2 W3 l w) (hn : l.getD 15 false = false) : w = W0 :=
  h.w0 (by
    cases e : l.getD 16 false with
    | false => rfl
    | true => rw [h.c16 e] at hn; cases hn)
theorem Reg27.early {W0 W1 W2 W3 : World} {l : Array Bool} {w : World} (h : Reg27 W0 W1 W2 W3 l w) (hn : l.getD 17 false = false) : w = W0 ∨ w = W1 := by
  cases e : l.getD 16 false with
  | false => exact .inl (h.w0 e)
  | true => exact .inr (h.w1 e hn)
end Go.Proofs.YbulkcxswFmt
