import Derived.Test.YbulkcxqeRows
import Derived.WalkKit
import Derived.WalkSpells
import Derived.WalkLawsBesides
import Derived.Deep.OwnRows
namespace Go.Proofs.Ybulkcxqe
open Go.RowKit Go.Deep

theorem hidE {p : Prop} (h : p) : Hid p := h
theorem info2 : (Yba.prog.info? 2).map (fun i => (i.zero, i.size, i.bytes)) = some (some (.int .i64 0), 1, 8) := by kernel_rfl

set_option maxHeartbeats 400000 in
theorem subtract_any (g n B : Nat) (z : Nat → Int) (mean : Int) (w : World) (hn : n ≤ 1024) (hBg : B ≤ g) (hrow : w.rowIs g 2 n (fun j => .int .i64 (z j))) :
    Calls Yba.prog 9 #[.slice (some ⟨g, 0, none⟩) n n, .int .i64 mean] w fun e w' => e = .returned (.tuple #[]) ∧ w'.rowIs g 2 n (fun j => .int .i64 (wrap64 (z j - mean))) ∧ Below B w w' := by
  have hst : Hid (w.rowIs g 2 n (fun j => .int .i64 (if j < 0 then wrap64 (z j - mean) else z j))) := hrow.congr (fun i _ => by simp)
  clear hrow
  go_enter Yba.func9, Yba.ntmps9
  go_wp2_with fail
  go_loopw [7] (fun s7 wr => ∃ k : Nat, k ≤ n ∧ s7 = .int .i64 k ∧ Hid (wr.rowIs g 2 n (fun j => .int .i64 (if j < k then wrap64 (z j - mean) else z j))) ∧ Hid (Below B w wr)) (fun s7 _ => n - (intOf s7).toNat)
  case atStart => exact ⟨0, Nat.zero_le _, rfl, hst, Below.refl _ _⟩
  case round =>
    obtain ⟨k, hk, rfl, hr, hB⟩ := hrel
    clear hst
    by_cases hlt : k < n
    · have hc : wr.cell? ⟨g, k, none⟩ = some (.int .i64 (z k)) := (hr.out.cell hlt).trans (by simp)
      have hf : wr.frozen? ⟨g, k, none⟩ = false := hr.out.frozen k
      go_wp2_with fail
      go_roundw
      case rel =>
        refine ⟨k + 1, by omega, by go_num, (hr.out.set k _).congr (fun i _ => ?_), hB.out.setCell hBg _⟩
        by_cases hik : i = k
        · subst hik; simp
        · have h1 : i < k + 1 ↔ i < k := by omega
          simp [hik, h1]
      case measure => simp [intOf]; omega
    · go_wp2_with fail
      go_end0
      exact ⟨rfl, hr.out.congr (fun i hi => by rw [if_pos (by omega)]), hB.out⟩

set_option maxHeartbeats 400000 in
theorem exact_any (b off n cap : Nat) (z : Nat → Int) (mean : Int) (w : World) (hn : n ≤ 1024) (hb : b < w.heap.size) (hc : ∀ j, j < n → w.cell? ⟨b, off + j, none⟩ = some (.int .i64 (z j))) :
    Calls Yba.prog 5 #[.slice (some ⟨b, off, none⟩) n cap, .int .i64 mean] w fun e w' => e = .returned (.bool true) ∧ Below w.heap.size w w' := by
  have HC : Hid (∀ j, j < n → w.cell? ⟨b, off + j, none⟩ = some (.int .i64 (z j))) := hc
  clear hc
  have hmk := run_make_row' (P := Yba.prog) 38 2 (.int .i64 0) 8 Yba.underlying38 info2 rfl .i64 .i64 n (by omega) (by omega)
  have hst : Hid ((w.alloc (.cells (madeCells #[.int .i64 0] n) 2)).rowIs w.heap.size 2 n (fun j => .int .i64 (if j < 0 then z j else 0))) := (World.rowIs_made w (.int .i64 0) n 2).congr (fun i _ => by simp)
  go_enter Yba.func5, Yba.ntmps5
  go_wp2_with fail
  clear hmk
  go_loopw [6] (fun s6 wr => ∃ k : Nat, k ≤ n ∧ s6 = .int .i64 k ∧ Hid (wr.rowIs w.heap.size 2 n (fun j => .int .i64 (if j < k then z j else 0))) ∧ Hid (Below w.heap.size w wr)) (fun s6 _ => n - (intOf s6).toNat)
  case atStart => exact ⟨0, Nat.zero_le _, rfl, hst, (Below.refl _ w).alloc (Nat.le_refl _) _⟩
  case round =>
    obtain ⟨k, hk, rfl, hr, hB⟩ := hrel
    clear hst
    by_cases hlt : k < n
    · have hx : wr.cell? ⟨b, off + k, none⟩ = some (.int .i64 (z k)) := (hB.out.cell hb).trans (HC.out k hlt)
      obtain ⟨u, hu⟩ : ∃ u, wr.cell? ⟨w.heap.size, k, none⟩ = some u := ⟨_, hr.out.cell hlt⟩
      have hf : wr.frozen? ⟨w.heap.size, k, none⟩ = false := hr.out.frozen k
      go_wp2_with fail
      go_roundw
      case rel =>
        refine ⟨k + 1, by omega, by go_num, (hr.out.set k _).congr (fun i _ => ?_), hB.out.setCell (Nat.le_refl _) _⟩
        by_cases hik : i = k
        · subst hik; simp
        · have h1 : i < k + 1 ↔ i < k := by omega
          simp [hik, h1]
      case measure => simp [intOf]; omega
    · have HR : wr.rowIs w.heap.size 2 n (fun j => .int .i64 (z j)) := hr.out.congr (fun i hi => by rw [if_pos (by omega)])
      have HS := subtract_any w.heap.size n w.heap.size z mean wr hn (Nat.le_refl _) HR
      clear hr HR
      go_wp2_with fail
      refine HS.mono ?_
      rintro e w2 ⟨rfl, hr2, hB2⟩
      have HR2 := hidE hr2
      have HB2 : Hid (Below w.heap.size w w2) := hB.out.trans hB2
      clear hr2 hB2 HS
      go_wp2_with fail
      go_loop [7, 8] (fun s7 _ => ∃ k : Nat, k ≤ n ∧ s7 = .int .i64 k) (fun s7 _ => n - (intOf s7).toNat)
      case atStart => exact ⟨0, Nat.zero_le _, rfl⟩
      case round =>
        obtain ⟨j, hj, rfl⟩ := hrel
        by_cases hjn : j < n
        · have hx : w2.cell? ⟨b, off + j, none⟩ = some (.int .i64 (z j)) := (HB2.out.cell hb).trans (HC.out j hjn)
          have hp : w2.cell? ⟨w.heap.size, j, none⟩ = some (.int .i64 (wrap64 (z j - mean))) := HR2.out.cell hjn
          go_wp2_with fail
          go_round
          case rel => exact ⟨j + 1, by omega, by go_num⟩
          case measure => simp [intOf]; omega
        · go_wp2_with fail
          go_ret
          exact ⟨rfl, HB2.out⟩

theorem exact_big (ao : Option Addr) (n cap : Nat) (mean : Int) (w : World) (h : 1024 < n) :
    Calls Yba.prog 5 #[.slice ao n cap, .int .i64 mean] w fun e w' => e = .returned (.bool true) ∧ Below w.heap.size w w' := by
  go_enter Yba.func5, Yba.ntmps5
  go_wp2_with fail
  go_ret
  exact ⟨rfl, Below.refl _ _⟩

set_option maxHeartbeats 400000 in
theorem exact_nil (ao : Option Addr) (cap : Nat) (mean : Int) (w : World) :
    Calls Yba.prog 5 #[.slice ao 0 cap, .int .i64 mean] w fun e w' => e = .returned (.bool true) ∧ Below w.heap.size w w' := by
  have hmk : ∀ w : World, (Instr.makeSlice 38 (.int .i64 0) (.int .i64 0)).run Yba.prog w = .ok (.slice (some ⟨w.heap.size, 0, none⟩) 0 0) (w.alloc (.cells (madeCells #[.int .i64 0] 0) 2)) := run_make_row' (P := Yba.prog) 38 2 (.int .i64 0) 8 Yba.underlying38 info2 rfl .i64 .i64 0 (by omega) (by omega)
  have HR : Hid ((w.alloc (.cells (madeCells #[.int .i64 0] 0) 2)).rowIs w.heap.size 2 0 (fun _ => .int .i64 0)) := World.rowIs_made w (.int .i64 0) 0 2
  have HS := subtract_any w.heap.size 0 w.heap.size (fun _ => 0) mean (w.alloc (.cells (madeCells #[.int .i64 0] 0) 2)) (by omega) (Nat.le_refl _) HR.out
  go_enter Yba.func5, Yba.ntmps5
  go_wp2_with fail
  refine wp_loop_rounds 1 ?_
  rw [rounds_succ]
  go_wp2_with fail
  refine HS.mono ?_
  rintro e w2 ⟨rfl, _, hB2⟩
  have HB2 : Hid (Below w.heap.size w w2) := ((Below.refl _ w).alloc (Nat.le_refl _) _).trans hB2
  clear hB2 HS
  go_wp2_with fail
  refine wp_loop_rounds 1 ?_
  rw [rounds_succ]
  go_wp2_with fail
  go_ret
  exact ⟨rfl, HB2.out⟩
end Go.Proofs.Ybulkcxqe
