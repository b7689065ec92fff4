import Derived.Test.YbulkcxumRows
import Derived.WalkKit
import Derived.WalkSpells
import Derived.WalkLawsBesides
import Derived.Below
import Derived.Deep.OwnRows
namespace Go.Proofs.Ybulkcxum
open Go.RowKit Go.Deep

theorem info61 : (Yba.prog.info? 61).map (fun i => (i.zero, i.size, i.bytes)) = some (some (.pointer none), 1, 8) := by kernel_rfl
theorem info63 : (Yba.prog.info? 63).map (fun i => (i.zero, i.size, i.bytes)) = some (some .nilIface, 1, 16) := by kernel_rfl

/-- A requirement: its member's value is none; or a function without a body; or one with a body. -/
def Shape (w : World) (r : Value) (d : Bool) : Prop :=
  ∃ br bd v, r = .pointer (some ⟨br, 0, none⟩) ∧ w.cell? ⟨br, 0, none⟩ = some (.pointer (some ⟨bd, 0, none⟩)) ∧ w.cell? ⟨bd, 3, none⟩ = some v ∧
    ((v = .nilIface ∧ d = false) ∨ ∃ bf s, v = .iface 34 (.pointer (some ⟨bf, 0, none⟩)) ∧ w.cell? ⟨bf, 3, none⟩ = some s ∧ ((s = .slice none 0 0 ∧ d = false) ∨ ∃ ad l c, s = .slice (some ad) l c ∧ d = true))
theorem Shape.kept {w w' : World} {r : Value} {d : Bool} (h : Shape w r d) (hb : Below w.heap.size w w') : Shape w' r d := by
  have keep : ∀ {a : Addr} {v : Value}, w.cell? a = some v → w'.cell? a = some v := fun {a v} hc => (hb.cell (World.block_lt_of_cell? w _ hc)).trans hc
  obtain ⟨br, bd, v, hr, h1, h2, h3⟩ := h
  refine ⟨br, bd, v, hr, keep h1, keep h2, ?_⟩
  rcases h3 with h3 | ⟨bf, s, hv, hs, h4⟩
  · exact Or.inl h3
  · exact Or.inr ⟨bf, s, hv, keep hs, h4⟩

theorem assert_none (w : World) : (Instr.typeAssert .nilIface 31 34 true).run Yba.prog w = .ok (.tuple #[.pointer none, .bool false]) w := by kernel_rfl
theorem assert_func (w : World) (p : Value) : (Instr.typeAssert (.iface 34 p) 31 34 true).run Yba.prog w = .ok (.tuple #[p, .bool true]) w := by kernel_rfl

theorem isDefault_any (r : Value) (d : Bool) (w : World) (h : Shape w r d) : Calls Yba.prog 6 #[r] w fun e w' => e = .returned (.bool d) ∧ w' = w := by
  obtain ⟨br, bd, v, rfl, h1, h2, h3⟩ := h
  have ht1 := assert_none
  have ht2 := assert_func
  rcases h3 with ⟨rfl, rfl⟩ | ⟨bf, s, rfl, hs, ⟨rfl, rfl⟩ | ⟨ad, l, c, rfl, rfl⟩⟩
  · go_enter Yba.func6, Yba.ntmps6
    go_wp2_with fail
    go_ret
    exact ⟨rfl, rfl⟩
  · go_enter Yba.func6, Yba.ntmps6
    go_wp2_with fail
    go_ret
    exact ⟨rfl, rfl⟩
  · go_enter Yba.func6, Yba.ntmps6
    go_wp2_with fail
    go_ret
    exact ⟨rfl, rfl⟩

theorem arity_any (r1 r2 : Value) (d1 d2 : Bool) (w : World) (h1 : Shape w r1 d1) (h2 : Shape w r2 d2) :
    Calls Yba.prog 5 #[r1, r2] w fun e w' => e = .returned (.int .i64 (if d1 || d2 then 830 else 0)) ∧ w' = w := by
  have c1 := isDefault_any r1 d1 w h1
  have c2 := isDefault_any r2 d2 w h2
  cases d1
  · cases d2
    · go_enter Yba.func5, Yba.ntmps5
      go_wp2_with fail
      refine c1.mono ?_
      rintro e w' ⟨rfl, rfl⟩
      go_wp2_with fail
      refine c2.mono ?_
      rintro e w' ⟨rfl, rfl⟩
      go_wp2_with fail
      go_ret
      exact ⟨rfl, rfl⟩
    · go_enter Yba.func5, Yba.ntmps5
      go_wp2_with fail
      refine c1.mono ?_
      rintro e w' ⟨rfl, rfl⟩
      go_wp2_with fail
      refine c2.mono ?_
      rintro e w' ⟨rfl, rfl⟩
      go_wp2_with fail
      go_ret
      exact ⟨rfl, rfl⟩
  · go_enter Yba.func5, Yba.ntmps5
    go_wp2_with fail
    refine c1.mono ?_
    rintro e w' ⟨rfl, rfl⟩
    go_wp2_with fail
    go_ret
    exact ⟨by simp, rfl⟩

theorem make35 (N : Nat) (w : World) : (Instr.makeSlice 35 (.int .i64 ((N : Int) % 4)) (.int .i64 ((N : Int) % 4))).run Yba.prog w = .ok (.slice (some ⟨w.heap.size, 0, none⟩) (N % 4) (N % 4)) (w.alloc (.cells (madeCells #[.pointer none] (N % 4)) 61)) := by
  have h := run_make_row' (P := Yba.prog) 35 61 (.pointer none) 8 Yba.underlying35 info61 rfl .i64 .i64 (N % 4) (by omega) (by omega) w
  rwa [show ((N % 4 : Nat) : Int) = (N : Int) % 4 from by omega] at h
theorem make36 (N : Nat) (w : World) : (Instr.makeSlice 36 (.int .i64 ((N : Int) % 3)) (.int .i64 ((N : Int) % 3))).run Yba.prog w = .ok (.slice (some ⟨w.heap.size, 0, none⟩) (N % 3) (N % 3)) (w.alloc (.cells (madeCells #[.nilIface] (N % 3)) 63)) := by
  have h := run_make_row' (P := Yba.prog) 36 63 .nilIface 16 Yba.underlying36 info63 rfl .i64 .i64 (N % 3) (by omega) (by omega) w
  rwa [show ((N % 3 : Nat) : Int) = (N : Int) % 3 from by omega] at h

theorem make_any (k n : Int) (w : World) (hk0 : 0 ≤ k) (hk1 : k ≤ 255) (hn0 : 0 ≤ n) (hn1 : n ≤ 255) :
    Calls Yba.prog 4 #[.int .u8 k, .int .u8 n] w fun e w' => ∃ r, e = .returned r ∧ Shape w' r (decide (k % 3 = 2)) ∧ Grown w w' ∧ Below w.heap.size w w' := by
  obtain ⟨K, rfl⟩ := Int.eq_ofNat_of_zero_le hk0
  obtain ⟨N, rfl⟩ := Int.eq_ofNat_of_zero_le hn0
  rcases (show K % 3 = 0 ∨ K % 3 = 1 ∨ K % 3 = 2 by omega) with h | h | h
  · have hd : decide ((K : Int) % 3 = 2) = false := by simp; omega
    rw [hd]
    go_enter Yba.func4, Yba.ntmps4
    go_wp2_with fail
    go_ret
    exact ⟨_, rfl, ⟨w.heap.size + 1, w.heap.size, .nilIface, rfl, by simp [go_sem], by simp [go_sem], Or.inl ⟨rfl, rfl⟩⟩, by repeat' (first | exact Grown.refl _ | apply Grown.drew | apply Grown.alloc | (refine Grown.setCell ?_ (by simp) _)), by repeat' (first | exact Below.refl _ _ | apply Below.drew | (refine Below.alloc ?_ (by simp) _) | (refine Below.setCell ?_ (by simp) _))⟩
  · have hd : decide ((K : Int) % 3 = 2) = false := by simp; omega
    rw [hd]
    have hmk := make35 N
    go_enter Yba.func4, Yba.ntmps4
    go_wp2_with fail
    go_ret
    exact ⟨_, rfl, ⟨w.heap.size + 1 + 1 + 1, w.heap.size, _, rfl, by simp [go_sem], by simp [go_sem], Or.inr ⟨w.heap.size + 1 + 1, .slice none 0 0, rfl, by simp [go_sem], Or.inl ⟨rfl, rfl⟩⟩⟩, by repeat' (first | exact Grown.refl _ | apply Grown.drew | apply Grown.alloc | (refine Grown.setCell ?_ (by simp) _)), by repeat' (first | exact Below.refl _ _ | apply Below.drew | (refine Below.alloc ?_ (by simp; try omega) _) | (refine Below.setCell ?_ (by simp) _))⟩
  · have hd : decide ((K : Int) % 3 = 2) = true := by simp; omega
    rw [hd]
    have hmk := make35 N
    have hmk2 := make36 N
    go_enter Yba.func4, Yba.ntmps4
    go_wp2_with fail
    go_region
    all_goals go_wp2_with fail
    all_goals go_ret
    · exact ⟨_, rfl, ⟨w.heap.size + 1 + 1 + 1 + 1, w.heap.size, _, rfl, by simp [go_sem], by simp [go_sem], Or.inr ⟨w.heap.size + 1 + 1 + 1, .slice (some ⟨w.heap.size + 1 + 1, 0, none⟩) (N % 3) (N % 3), rfl, by simp [go_sem], Or.inr ⟨_, _, _, rfl, rfl⟩⟩⟩, by repeat' (first | exact Grown.refl _ | apply Grown.drew | apply Grown.alloc | (refine Grown.setCell ?_ (by simp) _)), by repeat' (first | exact Below.refl _ _ | apply Below.drew | (refine Below.alloc ?_ (by simp; try omega) _) | (refine Below.setCell ?_ (by simp) _))⟩
    · exact ⟨_, rfl, ⟨w.heap.size + 1 + 1 + 1 + 1, w.heap.size, _, rfl, by simp [go_sem], by simp [go_sem], Or.inr ⟨w.heap.size + 1 + 1 + 1, .slice (some ⟨w.heap.size + 1, 0, none⟩) (N % 3) (N % 3), rfl, by simp [go_sem], Or.inr ⟨_, _, _, rfl, rfl⟩⟩⟩, by repeat' (first | exact Grown.refl _ | apply Grown.drew | apply Grown.alloc | (refine Grown.setCell ?_ (by simp) _)), by repeat' (first | exact Below.refl _ _ | apply Below.drew | (refine Below.alloc ?_ (by simp; try omega) _) | (refine Below.setCell ?_ (by simp) _))⟩

theorem grown_trans {a b c : World} (h : Grown a b) (k : Grown b c) : Grown a c := ⟨World.keptBut_trans h.1 k.1, fun x => (k.2.1 x).trans (h.2.1 x), Nat.le_trans h.2.2 k.2.2⟩

theorem table_any (a0 a1 a2 a3 : Int) (w : World) (h00 : 0 ≤ a0) (h01 : a0 ≤ 255) (h10 : 0 ≤ a1) (h11 : a1 ≤ 255) (h20 : 0 ≤ a2) (h21 : a2 ≤ 255) (h30 : 0 ≤ a3) (h31 : a3 ≤ 255) :
    Calls Yba.prog 3 #[.int .u8 a0, .int .u8 a1, .int .u8 a2, .int .u8 a3] w fun e w' => e = .returned (.bool true) ∧ Grown w w' := by
  have c1 := make_any a0 a1 w h00 h01 h10 h11
  go_enter Yba.func3, Yba.ntmps3
  go_wp2_with fail
  refine c1.mono ?_
  rintro e w1 ⟨r1, rfl, hs1, hg1, hb1⟩
  have c2 := make_any a2 a3 w1 h20 h21 h30 h31
  have HS1 : Hid (Shape w1 r1 (decide (a0 % 3 = 2))) := hs1
  have HG1 : Hid (Grown w w1) := hg1
  clear hs1 hg1 c1
  go_wp2_with fail
  refine c2.mono ?_
  rintro e w2 ⟨r2, rfl, hs2, hg2, hb2⟩
  have HS2 : Hid (Shape w2 r2 (decide (a2 % 3 = 2))) := hs2
  have HS1' : Hid (Shape w2 r1 (decide (a0 % 3 = 2))) := HS1.out.kept hb2
  have HG2 : Hid (Grown w w2) := grown_trans HG1.out hg2
  clear hs2 hg2 c2 HS1 HG1
  have c3 := arity_any r1 r2 _ _ w2 HS1'.out HS2.out
  have c4 := arity_any r2 r1 _ _ w2 HS2.out HS1'.out
  by_cases h1 : a0 % 3 = 2
  · have hb1 : (a0 % 3 == 2) = true := by simp [h1]
    rw [decide_eq_true h1] at c3 c4
    simp only [Bool.true_or, Bool.or_true, if_true] at c3 c4
    go_wp2_with fail
    refine c3.mono ?_
    rintro e w' ⟨rfl, rfl⟩
    go_wp2_with fail
    refine c4.mono ?_
    rintro e w' ⟨rfl, rfl⟩
    go_wp2_with fail
    go_ret
    exact ⟨rfl, HG2.out⟩
  · have hb1 : (a0 % 3 == 2) = false := by simp [h1]
    rw [decide_eq_false h1] at c3 c4
    by_cases h2 : a2 % 3 = 2
    · have hb2 : (a2 % 3 == 2) = true := by simp [h2]
      rw [decide_eq_true h2] at c3 c4
      simp only [Bool.true_or, Bool.or_true, if_true] at c3 c4
      go_wp2_with fail
      refine c3.mono ?_
      rintro e w' ⟨rfl, rfl⟩
      go_wp2_with fail
      refine c4.mono ?_
      rintro e w' ⟨rfl, rfl⟩
      go_wp2_with fail
      go_ret
      exact ⟨rfl, HG2.out⟩
    · have hb2 : (a2 % 3 == 2) = false := by simp [h2]
      rw [decide_eq_false h2] at c3 c4
      simp only [Bool.or_self, Bool.false_eq_true, if_false] at c3 c4
      go_wp2_with fail
      refine c3.mono ?_
      rintro e w' ⟨rfl, rfl⟩
      go_wp2_with fail
      refine c4.mono ?_
      rintro e w' ⟨rfl, rfl⟩
      go_wp2_with fail
      go_ret
      exact ⟨rfl, HG2.out⟩
end Go.Proofs.Ybulkcxum
