import Derived.Test.YbulkcxswFmtReg27
import Derived.Test.YbulkcxswFmtBuilt
namespace Go.Proofs.YbulkcxswFmt
open Go Go.RowKit Go.Deep

theorem wp_enter {P : Program} {o : Oper} {a : Act} {w : World} {K : Act → World → Prop} {Q : Exit → Act → World → Prop} {f : Nat} {args : Array Value} (h : (execOp a.eval o).run P w = .ok (.enter f args) w) (hc : Calls P f args w fun e w' => ∃ v, e = .returned v ∧ K (a.put o.dst v) w') : o.wp P a w K Q := by
  unfold Oper.wp
  rw [h]
  show Calls P f args w _
  exact hc.mono (fun e w' ⟨v, he, hk⟩ => by subst he; exact hk)

/-! ### The region that lays one more resource into the template's map -/
structure Reg23 (wr : World) (m : Nat) (ob : Obj) (l : Array Bool) (w : World) : Prop where
  c14 : l.getD 14 false = true → l.getD 5 false = true
  before : l.getD 14 false = false → Below wr.heap.size wr w
  after : l.getD 14 false = true → ∃ w9, Below wr.heap.size wr w9 ∧ w = World.putObj w9 m ob
theorem Reg23.start (wr : World) (m : Nat) (ob : Obj) (n : Nat) : Reg23 wr m ob (Array.replicate n false) wr.drew := by
  have h : ∀ j, (Array.replicate n false).getD j false = false := fun j => by
    simp only [Array.getD_eq_getD_getElem?, Array.getElem?_replicate]
    by_cases e : j < n
    · rw [if_pos e]; rfl
    · rw [if_neg e]; rfl
  refine ⟨?_, fun _ => (Below.refl _ _).drew, ?_⟩
  · rw [h]; intro e; cases e
  · rw [h]; intro e; cases e
theorem Reg23.keep {wr : World} {m : Nat} {ob : Obj} {l : Array Bool} {w : World} (h : Reg23 wr m ob l w) {i : Nat} (hi : i < l.size) (h14 : i ≠ 14) : Reg23 wr m ob (l.setIfInBounds i true) w := by
  have s14 := same_set (l := l) hi h14
  refine ⟨?_, ?_, ?_⟩
  · rw [s14]; exact fun e => mono_set hi (h.c14 e)
  · rw [s14]; exact h.before
  · rw [s14]; exact h.after
theorem Reg23.call {wr : World} {m : Nat} {ob : Obj} {l : Array Bool} {w w9 : World} (h : Reg23 wr m ob l w) (hs : l.size = 15) (n14 : l.getD 14 false = false) (hb : Below w.heap.size w w9) : Reg23 wr m ob (l.setIfInBounds 5 true) w9 := by
  have hi : 5 < l.size := by omega
  have s14 := same_set (l := l) hi (j := 14) (by omega)
  have b0 := h.before n14
  refine ⟨?_, fun _ => b0.trans ⟨hb.os, hb.tape, hb.output, hb.size, fun k hk => hb.block k (Nat.lt_of_lt_of_le hk b0.size)⟩, ?_⟩
  · intro _; exact now_set hi
  · rw [s14, n14]; intro e; cases e
theorem Reg23.put {wr : World} {m : Nat} {ob : Obj} {l : Array Bool} {w : World} (h : Reg23 wr m ob l w) (hs : l.size = 15) (n14 : l.getD 14 false = false) (h5 : l.getD 5 false = true) : Reg23 wr m ob (l.setIfInBounds 14 true) (World.putObj w m ob) := by
  have hi : 14 < l.size := by omega
  refine ⟨fun _ => mono_set hi h5, ?_, fun _ => ⟨w, h.before n14, rfl⟩⟩
  rw [now_set hi]; intro e; cases e
theorem Reg23.row {wr : World} {m : Nat} {ob : Obj} {l : Array Bool} {w : World} (h : Reg23 wr m ob l w) {b t n : Nat} {f : Nat → Value} (hr : wr.rowIs b t n f) (hb : b ≠ m) : w.rowIs b t n f := by
  cases e : l.getD 14 false with
  | false => exact hr.of_block ((h.before e).block b hr.lt)
  | true =>
    obtain ⟨w9, h9, rfl⟩ := h.after e
    exact rowIs_putObj (hr.of_block (h9.block b hr.lt)) hb _
end Go.Proofs.YbulkcxswFmt
