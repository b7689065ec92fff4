import Derived.Test.YbulkcxqeVals
import Derived.Test.YbulkcxqeOrd
import Derived.Test.YbulkcxqeZz
import Derived.BigQuiet
namespace Go.Proofs.Ybulkcxqe
open Go.RowKit Go.Deep

theorem equal_addr (w : World) : (binOp .neq 26 (.agg #[.int .u8 0, .int .u8 0, .int .u8 0, .int .u8 0, .int .u8 0, .int .u8 0, .int .u8 0, .int .u8 0, .int .u8 0, .int .u8 0, .int .u8 0, .int .u8 0, .int .u8 0, .int .u8 0, .int .u8 0, .int .u8 0, .int .u8 0, .int .u8 0, .int .u8 0, .int .u8 0]) (.agg #[.int .u8 0, .int .u8 0, .int .u8 0, .int .u8 0, .int .u8 0, .int .u8 0, .int .u8 0, .int .u8 0, .int .u8 0, .int .u8 0, .int .u8 0, .int .u8 0, .int .u8 0, .int .u8 0, .int .u8 0, .int .u8 0, .int .u8 0, .int .u8 0, .int .u8 0, .int .u8 0])).run Yba.prog w = .ok (.bool false) w := by kernel_rfl
theorem equal_name (w : World) : (binOp .neq 9 (.string { data := #[] }) (.string { data := #[] })).run Yba.prog w = .ok (.bool false) w := by kernel_rfl
theorem guard_addr : Yba.prog.eqGuardType Yba.prog.depth 26 = false := by kernel_rfl
theorem vrow_low {p : Nat → Int} {n k j : Nat} (hj : j < 20) : vrow p n (k * 22 + j) = .int .u8 0 := by
  unfold vrow
  have e2 : (k * 22 + j) % 22 = j := by omega
  rw [e2]
  unfold vcell
  rw [if_pos hj]
theorem vrow_name {p : Nat → Int} {n k : Nat} : vrow p n (k * 22 + 20) = .string .empty := by
  unfold vrow
  have e2 : (k * 22 + 20) % 22 = 20 := by omega
  rw [e2]
  rfl
theorem size26 : (Yba.prog.info? 26).map (·.size) = some 20 := by kernel_rfl
theorem range_addr {w : World} {b n k : Nat} {p : Nat → Int} {i : Nat} (h : w.rowIs b 28 (n * 22) (vrow p i)) (hk : k < n) : w.rangeAt b (k * 22) [.int .u8 0, .int .u8 0, .int .u8 0, .int .u8 0, .int .u8 0, .int .u8 0, .int .u8 0, .int .u8 0, .int .u8 0, .int .u8 0, .int .u8 0, .int .u8 0, .int .u8 0, .int .u8 0, .int .u8 0, .int .u8 0, .int .u8 0, .int .u8 0, .int .u8 0, .int .u8 0] := fun j v hv => by
  have hj : j < 20 := (List.getElem?_eq_some_iff.1 hv).1
  rw [h.cell (show k * 22 + j < n * 22 by omega), vrow_low hj]
  have hall : ∀ x ∈ ([.int .u8 0, .int .u8 0, .int .u8 0, .int .u8 0, .int .u8 0, .int .u8 0, .int .u8 0, .int .u8 0, .int .u8 0, .int .u8 0, .int .u8 0, .int .u8 0, .int .u8 0, .int .u8 0, .int .u8 0, .int .u8 0, .int .u8 0, .int .u8 0, .int .u8 0, .int .u8 0] : List Value), x = .int .u8 0 := by simp
  rw [hall v (List.mem_of_getElem? hv)]
theorem load_addr {w : World} {b o : Nat} (h : w.rangeAt b o [.int .u8 0, .int .u8 0, .int .u8 0, .int .u8 0, .int .u8 0, .int .u8 0, .int .u8 0, .int .u8 0, .int .u8 0, .int .u8 0, .int .u8 0, .int .u8 0, .int .u8 0, .int .u8 0, .int .u8 0, .int .u8 0, .int .u8 0, .int .u8 0, .int .u8 0, .int .u8 0]) : (loadVar 26 ⟨b, o, none⟩).run Yba.prog w = .ok (.agg #[.int .u8 0, .int .u8 0, .int .u8 0, .int .u8 0, .int .u8 0, .int .u8 0, .int .u8 0, .int .u8 0, .int .u8 0, .int .u8 0, .int .u8 0, .int .u8 0, .int .u8 0, .int .u8 0, .int .u8 0, .int .u8 0, .int .u8 0, .int .u8 0, .int .u8 0, .int .u8 0]) w := run_loadVar_mid (P := Yba.prog) w b o 26 _ _ h Yba.underlying26 rfl size26
theorem load_addr' {w : World} {b o : Nat} (h : w.rangeAt b o [.int .u8 0, .int .u8 0, .int .u8 0, .int .u8 0, .int .u8 0, .int .u8 0, .int .u8 0, .int .u8 0, .int .u8 0, .int .u8 0, .int .u8 0, .int .u8 0, .int .u8 0, .int .u8 0, .int .u8 0, .int .u8 0, .int .u8 0, .int .u8 0, .int .u8 0, .int .u8 0]) : (Instr.loadAt 26 (.pointer (some ⟨b, o, none⟩))).run Yba.prog w = .ok (.agg #[.int .u8 0, .int .u8 0, .int .u8 0, .int .u8 0, .int .u8 0, .int .u8 0, .int .u8 0, .int .u8 0, .int .u8 0, .int .u8 0, .int .u8 0, .int .u8 0, .int .u8 0, .int .u8 0, .int .u8 0, .int .u8 0, .int .u8 0, .int .u8 0, .int .u8 0, .int .u8 0]) w := run_loadAt_mid (P := Yba.prog) w b o 26 _ _ h Yba.underlying26 rfl size26
theorem quiet_load26 {C : World → Prop} {a : Act} {o : Oper} {K : Act → Prop} (x : Operand) (h : o.op = .load 26 x) (ad : Addr) (v : Value) (hx : a.eval x = .pointer (some ad))
    (hl : ∀ w, C w → (Instr.loadAt 26 (.pointer (some ad))).run Yba.prog w = .ok v w) (hk : K (a.put o.dst v)) : o.quiet Yba.prog a C K :=
  ⟨v, fun w hw => by
    unfold Oper.quietAt execOp
    simp only [h, hx, Sem.run_bind, hl w hw, Result.andThen_ok]
    exact ⟨rfl, rfl⟩, hk⟩
theorem ins_low {S : Nat → Nat} {i j x : Nat} (h : x < j) : ins S i j x = S x := if_pos h
theorem ins_at {S : Nat → Nat} {i j : Nat} : ins S i j j = i := by unfold ins; rw [if_neg (by omega), if_pos rfl]
theorem ins_step {S : Nat → Nat} {i j x : Nat} (hj : j < i) : (if x = j then i else if x = j + 1 then S j else ins S i (j + 1) x) = ins S i j x := by
  unfold ins
  by_cases h1 : x = j
  · rw [if_pos h1, if_neg (by omega), if_pos h1]
  · rw [if_neg h1]
    by_cases h2 : x = j + 1
    · rw [if_pos h2, if_neg (by omega), if_neg h1, if_pos (by omega), h2, Nat.add_sub_cancel]
    · rw [if_neg h2]
      by_cases h3 : x < j
      · rw [if_pos h3, if_pos (by omega)]
      · rw [if_neg h3, if_neg (by omega), if_neg h2, if_neg h1]
theorem below_draws {B : Nat} {a w : World} (h : Below B a w) (q : Nat) : Below B a (w.drewN q) := ⟨h.os, h.tape, h.output, h.size, h.block⟩
theorem done_ins {w : World} {b n : Nat} {S : Nat → Nat} {i j q : Nat} (h : w.rowIs b 3 n (fun x => .int .i64 (ins S i j x : Int))) (hj : j ≤ i) : (w.drewN q).rowIs b 3 n (fun x => .int .i64 ((if x < i + 1 then ins S i j x else x : Nat) : Int)) :=
  World.rowIs.congr (w := w.drewN q) h (fun x _ => by
    by_cases h1 : x < i + 1
    · rw [if_pos h1]
    · rw [if_neg h1]
      unfold ins
      rw [if_neg (by omega), if_neg (by omega), if_neg (by omega)])

set_option maxRecDepth 100000 in
set_option maxHeartbeats 1600000 in
theorem order_any (ao : Option Addr) (n cap : Nat) (z : Nat → Int) (w : World) (hn : n ≤ 1024) (hz : ∀ j, j < n → -9223372036854775808 ≤ z j ∧ z j ≤ 9223372036854775807) (hc : 0 < n → ∃ b off, ao = some ⟨b, off, none⟩ ∧ b < w.heap.size ∧ ∀ j, j < n → w.cell? ⟨b, off + j, none⟩ = some (.int .i64 (z j))) :
    Calls Yba.prog 3 #[.slice ao n cap] w fun e w' => e = .returned (.bool true) ∧ Below w.heap.size w w' := by
  have HC := hidE hc
  have HZ : Hid (∀ j, j < n → -9223372036854775808 ≤ z j ∧ z j ≤ 9223372036854775807) := hz
  clear hc hz
  have hmk := fun w => make_vals w n hn
  have hmk2 := run_make_row' (P := Yba.prog) 24 29 (.int .u16 0) 2 Yba.underlying24 info29 rfl .i64 .i64 n (by omega) (by omega)
  have hA : Hid (((w.alloc (.cells (madeCells (vcells 0) (n * 22)) 28)).alloc (.cells (madeCells #[.int .u16 0] n) 29)).rowIs w.heap.size 28 (n * 22) (vrow z 0)) := (rowIs_vals w z n).alloc _
  have hsz : (w.alloc (.cells (madeCells (vcells 0) (n * 22)) 28)).heap.size = w.heap.size + 1 := Array.size_push _
  have hB : Hid (((w.alloc (.cells (madeCells (vcells 0) (n * 22)) 28)).alloc (.cells (madeCells #[.int .u16 0] n) 29)).rowIs (w.heap.size + 1) 29 n (fun j => .int .u16 (if j < 0 then (kf z j : Int) else 0))) := by
    have := World.rowIs_made (w.alloc (.cells (madeCells (vcells 0) (n * 22)) 28)) (.int .u16 0) n 29
    rw [hsz] at this
    exact this.congr (fun i _ => by simp)
  have hL : Hid (Below w.heap.size w ((w.alloc (.cells (madeCells (vcells 0) (n * 22)) 28)).alloc (.cells (madeCells #[.int .u16 0] n) 29))) := ((Below.refl _ w).alloc (Nat.le_refl _) _).alloc (by rw [hsz]; omega) _
  clear hsz
  go_enter Yba.func3, Yba.ntmps3
  go_wp2_with fail
  clear hmk hmk2
  generalize ((w.alloc (.cells (madeCells (vcells 0) (n * 22)) 28)).alloc (.cells (madeCells #[.int .u16 0] n) 29)) = w1 at *
  go_loopw [26] (fun s26 wr => ∃ k : Nat, k ≤ n ∧ s26 = .int .i64 k ∧ Hid (wr.rowIs w.heap.size 28 (n * 22) (vrow z k)) ∧ Hid (wr.rowIs (w.heap.size + 1) 29 n (fun j => .int .u16 (if j < k then (kf z j : Int) else 0))) ∧ Hid (Below w.heap.size w wr)) (fun s26 _ => n - (intOf s26).toNat)
  case atStart => exact ⟨0, Nat.zero_le _, rfl, hA, hB, hL⟩
  case round =>
    clear hA hB hL
    obtain ⟨k, hk, rfl, hA, hB, hL⟩ := hrel
    by_cases hlt : k < n
    · obtain ⟨b, off, rfl, hb, hc⟩ := HC.out (by omega)
      have hx : wr.cell? ⟨b, off + k, none⟩ = some (.int .i64 (z k)) := (hL.out.cell hb).trans (hc k hlt)
      clear hc HC
      have HT1 : wr.there w.heap.size (k * 22) 22 := there_vals hA.out hlt
      have hkey := zzkey_any (z k) (wr.setCells w.heap.size (k * 22) (vcells (z k)).toList)
      have hB1 := hidE (rowIs_setCells_other (show w.heap.size + 1 ≠ w.heap.size by omega) (vcells (z k)).toList (k * 22) wr hB.out)
      have hA1 := hidE (rowIs_vals_set hA.out)
      have hL1 := hidE (below_setCells (Nat.le_refl w.heap.size) (vcells (z k)).toList (k * 22) wr hL.out)
      obtain ⟨u, hu⟩ : ∃ u, (wr.setCells w.heap.size (k * 22) (vcells (z k)).toList).cell? ⟨w.heap.size + 1, k, none⟩ = some u := ⟨_, hB1.out.cell hlt⟩
      have hf : (wr.setCells w.heap.size (k * 22) (vcells (z k)).toList).frozen? ⟨w.heap.size + 1, k, none⟩ = false := hB1.out.frozen k
      go_wp2_with (first
        | (refine wpList_store_mid rfl 28 _ _ rfl w.heap.size (k * 22) (vcells (z k)) ?_ ?_ ?_ size28 (vcells_one _) ?_; rfl; rfl; exact HT1))
      generalize (wr.setCells w.heap.size (k * 22) (vcells (z k)).toList) = wy at *
      refine hkey.mono ?_
      rintro e w' ⟨rfl, rfl⟩
      have hle : kf z k ≤ 65472 := kb_le (ub_lt (z k))
      clear hkey
      go_wp2_with fail
      go_roundw
      case rel =>
        refine ⟨k + 1, by omega, by go_num, hA1.out.setOther (by show w.heap.size ≠ w.heap.size + 1; omega) _, (hB1.out.set k _).congr (fun i _ => ?_), hL1.out.setCell (by show w.heap.size ≤ w.heap.size + 1; omega) _⟩
        by_cases hik : i = k
        · subst hik; simp [kf]
        · have h1 : i < k + 1 ↔ i < k := by omega
          simp [hik, h1]
      case measure => simp [intOf]; omega
    · obtain rfl : k = n := by omega
      have HP1 := byPower_any w.heap.size k z wr hn hA.out.lt HZ.out (fun j hj => (hA.out.cell (by omega)).trans (by rw [vrow_power hj]))
      go_wp2_with fail
      refine HP1.mono ?_
      rintro e w2 ⟨b1, O1, rfl, hr1, hO1, hb1, hB1⟩
      have hA2 : Hid (w2.rowIs w.heap.size 28 (k * 22) (vrow z k)) := hA.out.of_block (hB1.block _ hA.out.lt)
      have hK2 : Hid (w2.rowIs (w.heap.size + 1) 29 k (fun j => .int .u16 (kf z j : Int))) := (hB.out.of_block (hB1.block _ hB.out.lt)).congr (fun i hi => by rw [if_pos hi])
      have HR1 := hidE hr1
      have HO1 := hidE hO1
      have HL1 := hidE (hL.out.trans (hB1.mono hL.out.size))
      have hb1' : w.heap.size + 1 < b1 := Nat.lt_of_lt_of_le hB.out.lt hb1
      clear HP1 hr1 hO1 hB1 hA hB hL
      have hmk := run_make_row' (P := Yba.prog) 31 3 (.int .i64 0) 8 Yba.underlying31 info3 rfl .i64 .i64 k (by omega) (by omega)
      have hq1 : Hid ((w2.alloc (.cells (madeCells #[.int .i64 0] k) 3)).rowIs w2.heap.size 3 k (fun j => .int .i64 (if j < 0 then (j : Int) else 0))) := (World.rowIs_made w2 (.int .i64 0) k 3).congr (fun i _ => by simp)
      have hq2 : Hid ((w2.alloc (.cells (madeCells #[.int .i64 0] k) 3)).rowIs w.heap.size 28 (k * 22) (vrow z k)) := hA2.out.alloc _
      have hq3 : Hid ((w2.alloc (.cells (madeCells #[.int .i64 0] k) 3)).rowIs (w.heap.size + 1) 29 k (fun j => .int .u16 (kf z j : Int))) := hK2.out.alloc _
      have hq4 : Hid ((w2.alloc (.cells (madeCells #[.int .i64 0] k) 3)).rowIs b1 3 k (fun j => .int .i64 (O1 j : Int))) := HR1.out.alloc _
      have hq5 : Hid (Below w.heap.size w (w2.alloc (.cells (madeCells #[.int .i64 0] k) 3))) := HL1.out.alloc HL1.out.size _
      obtain ⟨b2, hb2⟩ : ∃ b2, b2 = w2.heap.size := ⟨_, rfl⟩
      have hb2' : b1 < b2 := hb2 ▸ HR1.out.lt
      rw [← hb2] at hq1
      go_wp2_with fail
      rw [← hb2]
      clear hmk hb2 hA2 hK2 HR1 HL1
      generalize (w2.alloc (.cells (madeCells #[.int .i64 0] k) 3)) = w3 at *
      go_loopw [52] (fun s52 wr => ∃ i : Nat, i ≤ k ∧ s52 = .int .i64 i ∧ Hid (wr.rowIs b2 3 k (fun j => .int .i64 (if j < i then (j : Int) else 0))) ∧ Hid (wr.rowIs w.heap.size 28 (k * 22) (vrow z k)) ∧ Hid (wr.rowIs (w.heap.size + 1) 29 k (fun j => .int .u16 (kf z j : Int))) ∧ Hid (wr.rowIs b1 3 k (fun j => .int .i64 (O1 j : Int))) ∧ Hid (Below w.heap.size w wr)) (fun s52 _ => k - (intOf s52).toNat)
      case atStart => exact ⟨0, Nat.zero_le _, rfl, hq1, hq2, hq3, hq4, hq5⟩
      case round =>
        clear hq1 hq2 hq3 hq4 hq5
        obtain ⟨i, hi, rfl, hq1, hq2, hq3, hq4, hq5⟩ := hrel
        by_cases hik : i < k
        · obtain ⟨u, hu⟩ : ∃ u, wr.cell? ⟨b2, i, none⟩ = some u := ⟨_, hq1.out.cell hik⟩
          have hf : wr.frozen? ⟨b2, i, none⟩ = false := hq1.out.frozen i
          go_wp2_with fail
          go_roundw
          case rel =>
            refine ⟨i + 1, by omega, by go_num, (hq1.out.set i _).congr (fun j _ => ?_), hq2.out.setOther (by show w.heap.size ≠ b2; omega) _, hq3.out.setOther (by show w.heap.size + 1 ≠ b2; omega) _, hq4.out.setOther (by show b1 ≠ b2; omega) _, hq5.out.setCell (by show w.heap.size ≤ b2; omega) _⟩
            by_cases hij : j = i
            · subst hij; simp
            · have h1 : j < i + 1 ↔ j < i := by omega
              simp [hij, h1]
          case measure => simp [intOf]; omega
        · obtain rfl : k = i := by omega
          have HW : Hid (wr.rowIs b2 3 k (fun j => .int .i64 ((if j < 1 then (fun x => x) j else j : Nat) : Int))) := hq1.out.congr (fun j hj => by simp [hj])
          clear hq1
          go_wp2_with fail
          go_loopw [11] (fun s11 wr => ∃ (i : Nat) (S : Nat → Nat), 1 ≤ i ∧ (i ≤ k ∨ i = 1) ∧ s11 = .int .i64 i ∧ Hid (Sorted (kf z) S i) ∧ Hid (wr.rowIs b2 3 k (fun j => .int .i64 ((if j < i then S j else j : Nat) : Int))) ∧ Hid (wr.rowIs w.heap.size 28 (k * 22) (vrow z k)) ∧ Hid (wr.rowIs (w.heap.size + 1) 29 k (fun j => .int .u16 (kf z j : Int))) ∧ Hid (wr.rowIs b1 3 k (fun j => .int .i64 (O1 j : Int))) ∧ Hid (Below w.heap.size w wr)) (fun s11 _ => k + 1 - (intOf s11).toNat)
          case atStart => exact ⟨1, fun x => x, by omega, Or.inr rfl, rfl, ⟨fun x hx => hx, fun x y h1 h2 => by omega⟩, HW, hq2, hq3, hq4, hq5⟩
          case round =>
            clear HW hq2 hq3 hq4 hq5
            obtain ⟨i, S, hi1, hi2, rfl, hS, HW, hq2, hq3, hq4, hq5⟩ := hrel
            by_cases hik : i < k
            · have HW2 : Hid (wr.rowIs b2 3 k (fun j => .int .i64 (ins S i i j : Int))) := HW.out.congr (fun j _ => by
                unfold ins
                by_cases h1 : j < i
                · rw [if_pos h1, if_pos h1]
                · rw [if_neg h1, if_neg h1]
                  by_cases h2 : j = i
                  · rw [if_pos h2, h2]
                  · rw [if_neg h2, if_neg (by omega)])
              clear HW
              go_wp2_with fail
              go_loopw [12] (fun s12 wr => ∃ j : Nat, j ≤ i ∧ s12 = .int .i64 j ∧ Hid (∀ x, j ≤ x → x < i → kf z i < kf z (S x)) ∧ Hid (wr.rowIs b2 3 k (fun x => .int .i64 (ins S i j x : Int))) ∧ Hid (wr.rowIs w.heap.size 28 (k * 22) (vrow z k)) ∧ Hid (wr.rowIs (w.heap.size + 1) 29 k (fun j => .int .u16 (kf z j : Int))) ∧ Hid (wr.rowIs b1 3 k (fun j => .int .i64 (O1 j : Int))) ∧ Hid (Below w.heap.size w wr)) (fun s12 _ => (intOf s12).toNat)
              case atStart => exact ⟨i, by omega, rfl, fun x h1 h2 => by omega, HW2, hq2, hq3, hq4, hq5⟩
              case round =>
                clear HW2 hq2 hq3 hq4 hq5
                obtain ⟨j, hj, rfl, hgt, HW, hq2, hq3, hq4, hq5⟩ := hrel
                by_cases hj0 : j = 0
                · subst hj0
                  go_wp2_with fail
                  go_quiet (fail)
                  go_wp2_with fail
                  go_roundw
                  case rel =>
                    exact ⟨i + 1, ins S i 0, by omega, Or.inl (by omega), by go_num, ins_sorted hS.out (by omega) (Or.inl rfl) hgt.out, done_ins HW.out (by omega), hq2.out, hq3.out, hq4.out, below_draws hq5.out _⟩
                  case measure => simp [intOf]; omega
                · obtain ⟨j', rfl⟩ : ∃ j', j = j' + 1 := ⟨j - 1, by omega⟩
                  have hSj := hS.out.1 j' (by omega)
                  have hc1 : wr.cell? ⟨b2, j', none⟩ = some (.int .i64 (S j' : Int)) := (HW.out.cell (by omega)).trans (by rw [ins_low (show j' < j' + 1 by omega)])
                  have hc2 : wr.cell? ⟨b2, j' + 1, none⟩ = some (.int .i64 (i : Int)) := (HW.out.cell (by omega)).trans (by rw [ins_at])
                  have hc3 : wr.cell? ⟨w.heap.size + 1, S j', none⟩ = some (.int .u16 (kf z (S j') : Int)) := hq3.out.cell (by omega)
                  have hc4 : wr.cell? ⟨w.heap.size + 1, i, none⟩ = some (.int .u16 (kf z i : Int)) := hq3.out.cell (by omega)
                  have hf1 : wr.frozen? ⟨b2, j', none⟩ = false := HW.out.frozen _
                  have hf2 : wr.frozen? ⟨b2, j' + 1, none⟩ = false := HW.out.frozen _
                  by_cases hlt : kf z i < kf z (S j')
                  · have hd : decide ((kf z i : Int) < (kf z (S j') : Int)) = true := by simp; omega
                    go_wp2_with fail
                    go_quiet (fail)
                    go_wp2_with fail
                    go_roundw
                    case rel =>
                      refine ⟨j', by omega, by go_num, fun x h1 h2 => ?_, World.rowIs.congr (World.rowIs.set (World.rowIs.set (w := wr.drewN nq) HW.out (j' + 1) _) j' _) (fun x _ => ?_), World.rowIs.setOther (World.rowIs.setOther (w := wr.drewN nq) hq2.out (by show w.heap.size ≠ b2; omega) _) (by show w.heap.size ≠ b2; omega) _, World.rowIs.setOther (World.rowIs.setOther (w := wr.drewN nq) hq3.out (by show w.heap.size + 1 ≠ b2; omega) _) (by show w.heap.size + 1 ≠ b2; omega) _, World.rowIs.setOther (World.rowIs.setOther (w := wr.drewN nq) hq4.out (by show b1 ≠ b2; omega) _) (by show b1 ≠ b2; omega) _, ((below_draws hq5.out nq).setCell (by show w.heap.size ≤ b2; omega) _).setCell (by show w.heap.size ≤ b2; omega) _⟩
                      · rcases Nat.lt_or_ge j' x with h3 | h3
                        · exact hgt.out x h3 h2
                        · obtain rfl : x = j' := by omega
                          exact hlt
                      · rw [← ins_step (show j' < i by omega)]
                        by_cases e1 : x = j'
                        · simp [e1]
                        · by_cases e2 : x = j' + 1
                          · simp [e2]
                          · simp [e1, e2]
                    case measure => simp [intOf]
                  · have hd : decide ((kf z i : Int) < (kf z (S j') : Int)) = false := by simp; omega
                    go_wp2_with fail
                    go_quiet (fail)
                    go_wp2_with fail
                    go_roundw
                    case rel =>
                      exact ⟨i + 1, ins S i (j' + 1), by omega, Or.inl (by omega), by go_num, ins_sorted hS.out (by omega) (Or.inr (by rw [Nat.add_sub_cancel]; omega)) hgt.out, done_ins HW.out (by omega), hq2.out, hq3.out, hq4.out, below_draws hq5.out _⟩
                    case measure => simp [intOf]; omega
            · have HS : Hid (∀ a, a < k → O1 a = S a) := fun a ha => by
                obtain rfl : i = k := by omega
                have h1 := HO1.out (S a) (hS.out.1 a ha)
                rwa [sorted_id hS.out ha] at h1
              have HW2 : Hid (wr.rowIs b2 3 k (fun j => .int .i64 (S j : Int))) := HW.out.congr (fun j hj => by rw [if_pos (by omega)])
              clear HW HO1 hS
              go_wp2_with fail
              go_loopw [14] (fun s14 wr => ∃ i : Nat, i ≤ k ∧ s14 = .int .i64 i ∧ Hid (wr.rowIs b2 3 k (fun j => .int .i64 (S j : Int))) ∧ Hid (wr.rowIs w.heap.size 28 (k * 22) (vrow z k)) ∧ Hid (wr.rowIs b1 3 k (fun j => .int .i64 (O1 j : Int))) ∧ Hid (Below w.heap.size w wr)) (fun s14 _ => k - (intOf s14).toNat)
              case atStart => exact ⟨0, by omega, rfl, HW2, hq2, hq4, hq5⟩
              case round =>
                clear HW2 hq2 hq3 hq4 hq5
                obtain ⟨m, hm, rfl, HW, hq2, hq4, hq5⟩ := hrel
                by_cases hmk : m < k
                · obtain ⟨b, off, rfl, hb, hc⟩ := HC.out (by omega)
                  have hx : wr.cell? ⟨b, off + m, none⟩ = some (.int .i64 (z m)) := (hq5.out.cell hb).trans (hc m hmk)
                  clear hc HC
                  have hc1 : wr.cell? ⟨b1, m, none⟩ = some (.int .i64 (S m : Int)) := (hq4.out.cell hmk).trans (by rw [HS.out m hmk])
                  have hc2 : wr.cell? ⟨b2, m, none⟩ = some (.int .i64 (S m : Int)) := HW.out.cell hmk
                  have hp : wr.cell? ⟨w.heap.size, m * 22 + 21, none⟩ = some (.int .i64 (z m)) := (hq2.out.cell (by omega)).trans (by rw [vrow_power hmk])
                  have hnm : wr.cell? ⟨w.heap.size, m * 22 + 20, none⟩ = some (.string { data := #[] }) := (hq2.out.cell (by omega)).trans (by rw [vrow_name]; rfl)
                  have heq := equal_addr
                  have hnq := equal_name
                  have hgd := guard_addr
                  go_wp2_with fail
                  go_quiet (fail)
                  go_wp2_with fail
                  have HLD : ∀ wx, (∃ n, wx = (wr.drewN nq).drewN n) → (Instr.loadAt 26 (.pointer (some ⟨w.heap.size, m * 22, none⟩))).run Yba.prog wx = .ok (.agg #[.int .u8 0, .int .u8 0, .int .u8 0, .int .u8 0, .int .u8 0, .int .u8 0, .int .u8 0, .int .u8 0, .int .u8 0, .int .u8 0, .int .u8 0, .int .u8 0, .int .u8 0, .int .u8 0, .int .u8 0, .int .u8 0, .int .u8 0, .int .u8 0, .int .u8 0, .int .u8 0]) wx := by
                    rintro _ ⟨q, rfl⟩
                    exact load_addr' (w := (wr.drewN nq).drewN q) (range_addr hq2.out hmk)
                  have HLD2 := hidE HLD
                  clear HLD
                  refine wp_region_quiet_lit (by kernel_rfl) (by kernel_rfl) ?_
                  repeat (go_big_quiet_step (fail))
                  go_big_quiet_want
                  refine quiet_load26 _ rfl _ _ rfl HLD2.out ?_
                  simp only [Act.put, List.setIfInBounds_toArray, List.set_cons_succ, List.set_cons_zero]
                  go_big_quiet_on
                  repeat (go_big_quiet_step (fail))
                  refine wpQuiet_nil ?_
                  rintro _ ⟨nq2, rfl⟩
                  go_wp2_with fail
                  go_roundw
                  case rel => exact ⟨m + 1, by omega, by go_num, HW.out, hq2.out, hq4.out, below_draws hq5.out _⟩
                  case measure => simp [intOf]; omega
                · go_wp2_with fail
                  go_ret
                  exact ⟨rfl, hq5.out⟩

theorem order_big (ao : Option Addr) (n cap : Nat) (w : World) (h : 1024 < n) :
    Calls Yba.prog 3 #[.slice ao n cap] w fun e w' => e = .returned (.bool true) ∧ Below w.heap.size w w' := by
  go_enter Yba.func3, Yba.ntmps3
  go_wp2_with fail
  go_ret
  exact ⟨rfl, Below.refl _ _⟩
end Go.Proofs.Ybulkcxqe
