import Derived.Test.YbulkcxpqFmtRows
import Derived.Test.YbulkcxpqFmtKept
import Derived.Deep.QuietTactic
import Derived.BigQuiet
import Derived.WideShapes
namespace Go.Proofs.YbulkcxpqFmt
open Go.RowKit

set_option maxHeartbeats 400000 in
theorem new_any (pa : Option Addr) (n c : Nat) (w : World) :
    Calls Ybaf.prog 11 #[.slice pa n c] w fun e w' => e = .returned (.pointer (some ⟨w.heap.size, 0, none⟩)) ∧
      w' = w.alloc (.cells #[.slice pa n c, .int .i64 0, .int .i64 (-1)] 53) := by
  go_enter Ybaf.func11, Ybaf.ntmps11
  go_wp2
  go_ret
  exact ⟨rfl, rfl⟩

/-- A reader's block: the slice that it reads, how far it has come. -/
def Rdr (w : World) (R : Nat) (pa : Option Addr) (n c i : Nat) : Prop := ∃ x, w.heap[R]? = some (.cells #[.slice pa n c, .int .i64 i, x] 53 (0, 0))

set_option maxHeartbeats 400000 in
theorem len_any {R : Nat} {pa : Option Addr} {n c i : Nat} {w : World} (hR : Rdr w R pa n c i) (hi : i < n) (hn : n ≤ maxLen) :
    Calls Ybaf.prog 20 #[.pointer (some ⟨R, 0, none⟩)] w fun e w' => e = .returned (.int .i64 (n - i)) ∧ ∃ q, w' = w.drewN q := by
  obtain ⟨x, hB⟩ := hR
  have h0 : w.cell? ⟨R, 0, none⟩ = some (.slice pa n c) := cell_blk hB rfl
  have h1 : w.cell? ⟨R, 1, none⟩ = some (.int .i64 i) := cell_blk hB rfl
  clear hB
  unfold maxLen at hn
  go_enter Ybaf.func20, Ybaf.ntmps20
  go_wp2
  go_quiet (fail)
  go_wp2
  go_quiet (fail)
  go_wp2
  go_ret
  exact ⟨rfl, _, World.drewN_drewN ..⟩

set_option maxHeartbeats 400000 in
theorem seek_any {R : Nat} {pa : Option Addr} {n c i : Nat} {w : World} (k : Nat) (hR : Rdr w R pa n c i) (hi : i + k ≤ maxLen) :
    Calls Ybaf.prog 21 #[.pointer (some ⟨R, 0, none⟩), .int .i64 k, .int .i64 1] w fun e w' => e = .returned (.tuple #[.int .i64 (i + k), .nilIface]) ∧
      Rdr w' R pa n c (i + k) ∧ Kept [R] w w' := by
  obtain ⟨x, hB⟩ := hR
  have h0 : w.cell? ⟨R, 0, none⟩ = some (.slice pa n c) := cell_blk hB rfl
  have h1 : w.cell? ⟨R, 1, none⟩ = some (.int .i64 i) := cell_blk hB rfl
  have h2 : w.cell? ⟨R, 2, none⟩ = some x := cell_blk hB rfl
  have f1 : w.frozen? ⟨R, 1, none⟩ = false := free_blk hB
  have f2 : w.frozen? ⟨R, 2, none⟩ = false := free_blk hB
  have HB : Hid (w.heap[R]? = some (.cells #[.slice pa n c, .int .i64 i, x] 53 (0, 0))) := hB
  clear hB
  unfold maxLen at hi
  go_enter Ybaf.func21, Ybaf.ntmps21
  go_wp2
  go_ret2
  refine ⟨rfl, ⟨.int .i64 (-1), ?_⟩, ((Kept.refl _ _).setCell (by simp) _).setCell (by simp) _⟩
  rw [blk_setCell _ (blk_setCell _ HB.out)]
  simp

set_option maxHeartbeats 400000 in
theorem read_any {R g b off n c i m : Nat} {t : TypeId} {cur cs : List Value} {w : World} (hR : Rdr w R (some ⟨b, off, none⟩) n c i) (hg : w.heap[g]? = some (.cells cur.toArray t (0, 0)))
    (hcur : cur.length = m) (hm : 0 < m) (hcs : cs.length = m) (hsrc : ∀ j v, cs[j]? = some v → w.cell? ⟨b, off + i + j, none⟩ = some v) (h1c : ∀ v ∈ cs, v.oneCell' = true) (hRg : R ≠ g) (hbR : b ≠ R) (him : i + m ≤ n) (hnc : n ≤ c) (hc : c ≤ maxLen) :
    Calls Ybaf.prog 42 #[.pointer (some ⟨R, 0, none⟩), .slice (some ⟨g, 0, none⟩) m m] w fun e w' => e = .returned (.tuple #[.int .i64 m, .nilIface]) ∧
      Rdr w' R (some ⟨b, off, none⟩) n c (i + m) ∧ w'.heap[g]? = some (.cells cs.toArray t (0, 0)) ∧ Kept [R, g] w w' := by
  obtain ⟨x, hB⟩ := hR
  have h0 : w.cell? ⟨R, 0, none⟩ = some (.slice (some ⟨b, off, none⟩) n c) := cell_blk hB rfl
  have h1 : w.cell? ⟨R, 1, none⟩ = some (.int .i64 i) := cell_blk hB rfl
  have h2 : w.cell? ⟨R, 2, none⟩ = some x := cell_blk hB rfl
  have f1 : w.frozen? ⟨R, 1, none⟩ = false := free_blk hB
  have f2 : w.frozen? ⟨R, 2, none⟩ = false := free_blk hB
  have HB : Hid (w.heap[R]? = some (.cells #[.slice (some ⟨b, off, none⟩) n c, .int .i64 i, x] 53 (0, 0))) := hB
  have HG : Hid (w.heap[g]? = some (.cells cur.toArray t (0, 0))) := hg
  have HS : Hid (∀ j v, cs[j]? = some v → w.cell? ⟨b, off + i + j, none⟩ = some v) := hsrc
  clear hB hg hsrc
  unfold maxLen at hc
  have hin : i < n := by omega
  go_enter Ybaf.func42, Ybaf.ntmps42
  go_wp2
  go_quiet (fail)
  go_wp2
  have k0 : ((w.drewN nq).setCell ⟨R, 2, none⟩ (.int .i64 (-1))).cell? ⟨R, 0, none⟩ = some (.slice (some ⟨b, off, none⟩) n c) := by simp [World.cell?_setCell_other, h0]
  have k1 : ((w.drewN nq).setCell ⟨R, 2, none⟩ (.int .i64 (-1))).cell? ⟨R, 1, none⟩ = some (.int .i64 i) := by simp [World.cell?_setCell_other, h1]
  have k2 : ((w.drewN nq).setCell ⟨R, 2, none⟩ (.int .i64 (-1))).frozen? ⟨R, 1, none⟩ = false := by simp [f1]
  have KB : Hid (((w.drewN nq).setCell ⟨R, 2, none⟩ (.int .i64 (-1))).heap[R]? = some (.cells #[.slice (some ⟨b, off, none⟩) n c, .int .i64 i, .int .i64 (-1)] 53 (0, 0))) := by
    show _ = _
    rw [blk_setCell (w := w.drewN nq) _ HB.out]; simp
  have KG : Hid (((w.drewN nq).setCell ⟨R, 2, none⟩ (.int .i64 (-1))).heap[g]? = some (.cells cur.toArray t (0, 0))) := by
    show _ = _
    rw [Below.heap_setCell (w.drewN nq) ⟨R, 2, none⟩ _ g (fun e => hRg e.symm)]; exact HG.out
  have KS : Hid (∀ j v, cs[j]? = some v → ((w.drewN nq).setCell ⟨R, 2, none⟩ (.int .i64 (-1))).cell? ⟨b, off + i + j, none⟩ = some v) := by
    intro j v hv
    rw [World.cell?_setCell_other _ _ _ _ (fun e => hbR (by injection e with e1; exact e1.symm))]
    exact HS.out j v hv
  have KK : Hid (Kept [R, g] w ((w.drewN nq).setCell ⟨R, 2, none⟩ (.int .i64 (-1)))) := ((Kept.refl _ _).drewN nq).setCell (by simp) _
  clear h0 h1 h2 f1 f2 HB HG HS
  generalize ((w.drewN nq).setCell ⟨R, 2, none⟩ (.int .i64 (-1))) = W at *
  have hci : ¬ c = i := by omega
  have hin' : i ≤ n := by omega
  go_region_law (refine step_copy_row rfl (.tmp 20) (.tmp 29) 24 24 rfl 5 Ybaf.underlying24 (by kernel_rfl) g m m ⟨b, off + i, none⟩ (n - i) (c - i) rfl rfl cur.toArray t KG.out cs hcs (by omega) (by simpa using hcur) (fun j v hv => by rw [World.cell?_drew, Go.WideShapes.add_plain]; exact KS.out j v hv) h1c ?_)
  all_goals
    have j1 : (W.drew.setRow g cs.toArray).cell? ⟨R, 1, none⟩ = some (.int .i64 i) := by
      rw [World.cell?_of_block (w := W) (setRow_other W.drew g R _ hRg)]; exact k1
    have j2 : (W.drew.setRow g cs.toArray).frozen? ⟨R, 1, none⟩ = false := by
      rw [World.frozen?_of_block (w := W) (setRow_other W.drew g R _ hRg)]; exact k2
    go_wp2
    go_ret2
    refine ⟨rfl, ⟨.int .i64 (-1), ?_⟩, ?_, ((KK.out.drew).setRow (by simp) _).setCell (by simp) _⟩
    · rw [blk_setCell (w := W.drew.setRow g cs.toArray) _ ((setRow_other W.drew g R _ hRg).trans KB.out)]; simp
    · rw [Below.heap_setCell _ _ _ _ (fun e => hRg e.symm)]; exact setRow_heap W.drew g _ _ _ _ KG.out
end Go.Proofs.YbulkcxpqFmt
