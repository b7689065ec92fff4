import Derived.Test.YbulkcxqeVals
import Derived.Test.YbulkcxqeOrd
namespace Go.Proofs.Ybulkcxqe
open Go.RowKit Go.Deep

theorem info4 : (Yba.prog.info? 4).map (fun i => (i.zero, i.size, i.bytes)) = some (some (.bool false), 1, 1) := by kernel_rfl

/-- Doubling keeps every count. -/
theorem pos_double {z : Nat → Int} {n k : Nat} (hz : ∀ j, j < n → 0 ≤ z j ∧ z j ≤ 4294967295) (hk : k < n) : pos (kf fun j => 2 * z j) n k = pos (kf z) n k := by
  have key : ∀ i, i < n → (kf z i = 65472 ∧ kf (fun j => 2 * z j) i = 65472) ∨ (kf z i < 2048 ∧ kf (fun j => 2 * z j) i = kf z i + 64) := by
    intro i hi
    have h := hz i hi
    have e1 : ub (z i) = (z i).toNat := by unfold ub; omega
    have e2 : ub (2 * z i) = 2 * (z i).toNat := by unfold ub; omega
    unfold kf
    rw [e1, e2]
    by_cases h0 : (z i).toNat = 0
    · left
      rw [h0]
      exact ⟨rfl, rfl⟩
    · right
      have := kb_double h0 (by omega)
      exact ⟨this.2, this.1⟩
  refine pos_iso hk (fun i j hi hj => ?_) (fun i j hi hj => ?_)
  · have := key i hi; have := key j hj; omega
  · have := key i hi; have := key j hj; omega

set_option maxHeartbeats 1600000 in
theorem scale_any (ao : Option Addr) (n cap : Nat) (z : Nat → Int) (w : World) (hn : n ≤ 1024) (hz : ∀ j, j < n → 0 ≤ z j ∧ z j ≤ 4294967295) (hc : 0 < n → ∃ b off, ao = some ⟨b, off, none⟩ ∧ b < w.heap.size ∧ ∀ j, j < n → w.cell? ⟨b, off + j, none⟩ = some (.int .u32 (z j))) :
    Calls Yba.prog 4 #[.slice ao n cap] w fun e w' => e = .returned (.bool true) ∧ Below w.heap.size w w' := by
  have HC := hidE hc
  have HZ : Hid (∀ j, j < n → 0 ≤ z j ∧ z j ≤ 4294967295) := hz
  clear hc hz
  have hmk := fun w => make_vals w n hn
  have hA : Hid (((w.alloc (.cells (madeCells (vcells 0) (n * 22)) 28)).alloc (.cells (madeCells (vcells 0) (n * 22)) 28)).rowIs w.heap.size 28 (n * 22) (vrow z 0)) := (rowIs_vals w z n).alloc _
  have hsz : (w.alloc (.cells (madeCells (vcells 0) (n * 22)) 28)).heap.size = w.heap.size + 1 := Array.size_push _
  have hB : Hid (((w.alloc (.cells (madeCells (vcells 0) (n * 22)) 28)).alloc (.cells (madeCells (vcells 0) (n * 22)) 28)).rowIs (w.heap.size + 1) 28 (n * 22) (vrow (fun j => 2 * z j) 0)) := by
    have := rowIs_vals (w.alloc (.cells (madeCells (vcells 0) (n * 22)) 28)) (fun j => 2 * z j) n
    rwa [hsz] at this
  have hL : Hid (Below w.heap.size w ((w.alloc (.cells (madeCells (vcells 0) (n * 22)) 28)).alloc (.cells (madeCells (vcells 0) (n * 22)) 28))) := ((Below.refl _ w).alloc (Nat.le_refl _) _).alloc (by rw [hsz]; omega) _
  clear hsz
  go_enter Yba.func4, Yba.ntmps4
  go_wp2_with fail
  clear hmk
  generalize ((w.alloc (.cells (madeCells (vcells 0) (n * 22)) 28)).alloc (.cells (madeCells (vcells 0) (n * 22)) 28)) = w1 at *
  go_loopw [24] (fun s24 wr => ∃ k : Nat, k ≤ n ∧ s24 = .int .i64 k ∧ Hid (wr.rowIs w.heap.size 28 (n * 22) (vrow z k)) ∧ Hid (wr.rowIs (w.heap.size + 1) 28 (n * 22) (vrow (fun j => 2 * z j) k)) ∧ Hid (Below w.heap.size w wr)) (fun s24 _ => n - (intOf s24).toNat)
  case atStart => exact ⟨0, Nat.zero_le _, rfl, hA, hB, hL⟩
  case round =>
    clear hA hB hL
    obtain ⟨k, hk, rfl, hA, hB, hL⟩ := hrel
    by_cases hlt : k < n
    · obtain ⟨b, off, rfl, hb, hc⟩ := HC.out (by omega)
      have hx : wr.cell? ⟨b, off + k, none⟩ = some (.int .u32 (z k)) := (hL.out.cell hb).trans (hc k hlt)
      clear hc HC
      have hz0 := (HZ.out k hlt).1
      have hz1 := (HZ.out k hlt).2
      have HT1 : wr.there w.heap.size (k * 22) 22 := there_vals hA.out hlt
      have HT2 : (wr.setCells w.heap.size (k * 22) (vcells (z k)).toList).there (w.heap.size + 1) (k * 22) 22 := World.there_setCells (there_vals hB.out hlt) _ _ _
      go_wp2_with (first
        | (refine wpList_store_mid rfl 28 _ _ rfl w.heap.size (k * 22) (vcells (z k)) ?_ ?_ ?_ size28 (vcells_one _) ?_; rfl; rfl; exact HT1)
        | (refine wpList_store_mid rfl 28 _ _ rfl (w.heap.size + 1) (k * 22) (vcells (2 * z k)) ?_ ?_ ?_ size28 (vcells_one _) ?_; rfl; rfl; exact HT2))
      go_roundw
      case rel =>
        refine ⟨k + 1, by omega, by go_num, rowIs_setCells_other (by omega) _ _ _ (rowIs_vals_set hA.out), rowIs_vals_set (p := fun j => 2 * z j) (rowIs_setCells_other (by omega) _ _ _ hB.out), below_setCells (by omega) _ _ _ (below_setCells (Nat.le_refl _) _ _ _ hL.out)⟩
      case measure => simp [intOf]; omega
    · obtain rfl : k = n := by omega
      have HP1 := byPower_any w.heap.size k z wr hn hA.out.lt (fun j hj => by have := HZ.out j hj; omega) (fun j hj => (hA.out.cell (by omega)).trans (by rw [vrow_power hj]))
      go_wp2_with fail
      refine HP1.mono ?_
      rintro e w2 ⟨b1, O1, rfl, hr1, hO1, hb1, hB1⟩
      have hB' : Hid (w2.rowIs (w.heap.size + 1) 28 (k * 22) (vrow (fun j => 2 * z j) k)) := hB.out.of_block (hB1.block _ hB.out.lt)
      have HP2 := byPower_any (w.heap.size + 1) k (fun j => 2 * z j) w2 hn hB'.out.lt (fun j hj => by have := HZ.out j hj; omega) (fun j hj => (hB'.out.cell (by omega)).trans (by rw [vrow_power hj]))
      have HR1 := hidE hr1
      have HO1 := hidE hO1
      have HL1 := hidE (hL.out.trans (hB1.mono hL.out.size))
      have hb1' : w.heap.size + 1 < b1 := Nat.lt_of_lt_of_le hB.out.lt hb1
      clear HP1 hr1 hO1 hB1 hA hB hL
      go_wp2_with fail
      refine HP2.mono ?_
      rintro e w3 ⟨b2, O2, rfl, hr2, hO2, hb2, hB2⟩
      have HR2 := hidE hr2
      have HR1' : Hid (w3.rowIs b1 3 k (fun j => .int .i64 (O1 j : Int))) := HR1.out.of_block (hB2.block _ HR1.out.lt)
      obtain ⟨S, hS⟩ := exists_sorted (kf z) k
      have HS : Hid (∀ a, a < k → S a < k ∧ pos (kf z) k (S a) = a ∧ O1 a = S a ∧ O2 a = S a) := fun a ha => by
        have h1 := hS.1 a ha
        have h2 := sorted_id hS ha
        refine ⟨h1, h2, ?_, ?_⟩
        · have := HO1.out (S a) h1; rwa [h2] at this
        · have := hO2 (S a) h1; rwa [pos_double HZ.out h1, h2] at this
      have HL3 := hidE (HL1.out.trans (hB2.mono HL1.out.size))
      have hb2' : b1 < b2 := Nat.lt_of_lt_of_le HR1.out.lt hb2
      clear HP2 hr2 hO2 hB2 HL1 HR1 HO1 hS hB'
      have hmk := run_make_row' (P := Yba.prog) 36 4 (.bool false) 1 Yba.underlying36 info4 rfl .i64 .i64 k (by omega) (by omega)
      have hq1 : Hid ((w3.alloc (.cells (madeCells #[.bool false] k) 4)).rowIs w3.heap.size 4 k (fun j => .bool (decide (pos (kf z) k j < 0)))) := (World.rowIs_made w3 (.bool false) k 4).congr (fun i _ => by simp)
      have hq2 : Hid ((w3.alloc (.cells (madeCells #[.bool false] k) 4)).rowIs b1 3 k (fun j => .int .i64 (O1 j : Int))) := HR1'.out.alloc _
      have hq3 : Hid ((w3.alloc (.cells (madeCells #[.bool false] k) 4)).rowIs b2 3 k (fun j => .int .i64 (O2 j : Int))) := HR2.out.alloc _
      have hq4 : Hid (Below w.heap.size w (w3.alloc (.cells (madeCells #[.bool false] k) 4))) := HL3.out.alloc HL3.out.size _
      obtain ⟨bs, hbs⟩ : ∃ bs, bs = w3.heap.size := ⟨_, rfl⟩
      have hbs' : b2 < bs := hbs ▸ HR2.out.lt
      rw [← hbs] at hq1
      go_wp2_with fail
      rw [← hbs]
      clear hmk HR1' HR2 HL3 hbs
      generalize (w3.alloc (.cells (madeCells #[.bool false] k) 4)) = w4 at *
      go_loopw [11] (fun s11 wr => ∃ i : Nat, i ≤ k ∧ s11 = .int .i64 i ∧ Hid (wr.rowIs bs 4 k (fun j => .bool (decide (pos (kf z) k j < i)))) ∧ Hid (wr.rowIs b1 3 k (fun j => .int .i64 (O1 j : Int))) ∧ Hid (wr.rowIs b2 3 k (fun j => .int .i64 (O2 j : Int))) ∧ Hid (Below w.heap.size w wr)) (fun s11 _ => k - (intOf s11).toNat)
      case atStart => exact ⟨0, Nat.zero_le _, rfl, hq1, hq2, hq3, hq4⟩
      case round =>
        clear hq1 hq2 hq3 hq4
        obtain ⟨i, hi, rfl, hq1, hq2, hq3, hq4⟩ := hrel
        by_cases hik : i < k
        · obtain ⟨hS1, hS2, hS3, hS4⟩ := HS.out i hik
          have hc1 : wr.cell? ⟨b1, i, none⟩ = some (.int .i64 (S i : Int)) := (hq2.out.cell hik).trans (by rw [hS3])
          have hc2 : wr.cell? ⟨b2, i, none⟩ = some (.int .i64 (S i : Int)) := (hq3.out.cell hik).trans (by rw [hS4])
          have hc3 : wr.cell? ⟨bs, S i, none⟩ = some (.bool false) := (hq1.out.cell hS1).trans (by simp [hS2])
          have hf3 : wr.frozen? ⟨bs, S i, none⟩ = false := hq1.out.frozen _
          have HS2 := hidE hS2
          clear hS2 hS3 hS4
          go_wp2_with fail
          go_region
          go_wp2_with fail
          go_roundw
          case rel =>
            refine ⟨i + 1, by omega, by go_num, (hq1.out.set (S i) _).congr (fun j hj => ?_), hq2.out.setOther (by show b1 ≠ bs; omega) _, hq3.out.setOther (by show b2 ≠ bs; omega) _, Below.drew (hq4.out.setCell (p := ⟨bs, S i, none⟩) (by show w.heap.size ≤ bs; omega) _)⟩
            by_cases hjs : j = S i
            · subst hjs
              simp [HS2.out]
            · have h1 := pos_ne (kf z) hj hS1 hjs
              rw [HS2.out] at h1
              have h2 : pos (kf z) k j < i + 1 ↔ pos (kf z) k j < i := by omega
              simp [hjs, h2]
          case measure => simp [intOf]; omega
        · go_wp2_with fail
          go_ret
          exact ⟨rfl, hq4.out⟩

theorem scale_big (ao : Option Addr) (n cap : Nat) (w : World) (h : 1024 < n) :
    Calls Yba.prog 4 #[.slice ao n cap] w fun e w' => e = .returned (.bool true) ∧ Below w.heap.size w w' := by
  go_enter Yba.func4, Yba.ntmps4
  go_wp2_with fail
  go_ret
  exact ⟨rfl, Below.refl _ _⟩
end Go.Proofs.Ybulkcxqe
