import Derived.Test.YbulkcxqePow
namespace Go.Proofs.Ybulkcxqe
open Go.RowKit Go.Deep

theorem info29 : (Yba.prog.info? 29).map (fun i => (i.zero, i.size, i.bytes)) = some (some (.int .u16 0), 1, 2) := by kernel_rfl
theorem info3 : (Yba.prog.info? 3).map (fun i => (i.zero, i.size, i.bytes)) = some (some (.int .i64 0), 1, 8) := by kernel_rfl
/-- The keys of the powers. -/
def kf (p : Nat → Int) (k : Nat) : Nat := kb (ub (p k))

theorem ce_le (K : Nat → Nat) : ∀ m v, ce K m v ≤ m
  | 0, _ => Nat.le_refl _
  | m + 1, v => by have := ce_le K m v; simp only [ce]; split <;> omega

set_option maxHeartbeats 800000 in
theorem byPower_any (g n : Nat) (p : Nat → Int) (w : World) (hn : n ≤ 1024) (hg : g < w.heap.size)
    (hp : ∀ k, k < n → -9223372036854775808 ≤ p k ∧ p k ≤ 9223372036854775807)
    (hc : ∀ k, k < n → w.cell? ⟨g, k * 22 + 21, none⟩ = some (.int .i64 (p k))) :
    Calls Yba.prog 8 #[.slice (some ⟨g, 0, none⟩) n n] w fun e w' => ∃ (b : Nat) (O : Nat → Nat),
      e = .returned (.slice (some ⟨b, 0, none⟩) n n) ∧ w'.rowIs b 3 n (fun j => .int .i64 (O j : Int)) ∧ (∀ k, k < n → O (pos (kf p) n k) = k) ∧ w.heap.size ≤ b ∧ Below w.heap.size w w' := by
  have HC : Hid (∀ k, k < n → w.cell? ⟨g, k * 22 + 21, none⟩ = some (.int .i64 (p k))) := hc
  have HP : Hid (∀ k, k < n → -9223372036854775808 ≤ p k ∧ p k ≤ 9223372036854775807) := hp
  clear hc hp
  have hmk := run_make_row' (P := Yba.prog) 24 29 (.int .u16 0) 2 Yba.underlying24 info29 rfl .i64 .i64 n (by omega) (by omega)
  have hst : Hid ((w.alloc (.cells (madeCells #[.int .u16 0] n) 29)).rowIs w.heap.size 29 n (fun j => .int .u16 (if j < 0 then (kf p j : Int) else 0))) := (World.rowIs_made w (.int .u16 0) n 29).congr (fun i _ => by simp)
  go_enter Yba.func8, Yba.ntmps8
  go_wp2_with fail
  clear hmk
  go_loopw [4, 5, 20] (fun s4 s5 s20 wr => ∃ k lo hi : Nat, k ≤ n ∧ s4 = .int .u16 lo ∧ s5 = .int .u16 hi ∧ s20 = .int .i64 k ∧ lo ≤ 65535 ∧ hi ≤ 65472 ∧ (k = 0 → lo = 65535 ∧ hi = 0) ∧ Hid (0 < k → lo ≤ hi) ∧ Hid (∀ i, i < k → lo ≤ kf p i ∧ kf p i ≤ hi) ∧ Hid (wr.rowIs w.heap.size 29 n (fun j => .int .u16 (if j < k then (kf p j : Int) else 0))) ∧ Hid (Below w.heap.size w wr)) (fun _ _ s20 _ => n - (intOf s20).toNat)
  case atStart => exact ⟨0, 65535, 0, Nat.zero_le _, rfl, rfl, rfl, by omega, by omega, fun _ => ⟨rfl, rfl⟩, fun h => absurd h (by omega), fun i h => absurd h (by omega), hst, (Below.refl _ w).alloc (Nat.le_refl _) _⟩
  case round =>
    obtain ⟨k, lo, hi, hk, rfl, rfl, rfl, hlo, hhi, h0, hlh, hall, hr, hB⟩ := hrel
    clear hst
    by_cases hlt : k < n
    · have hx : wr.cell? ⟨g, k * 22 + 21, none⟩ = some (.int .i64 (p k)) := (hB.out.cell hg).trans (HC.out k hlt)
      obtain ⟨u, hu⟩ : ∃ u, wr.cell? ⟨w.heap.size, k, none⟩ = some u := ⟨_, hr.out.cell hlt⟩
      have hf : wr.frozen? ⟨w.heap.size, k, none⟩ = false := hr.out.frozen k
      have hK := powerKey_any (p k) wr (HP.out k hlt).1 (HP.out k hlt).2
      have hle : kf p k ≤ 65472 := kb_le (ub_lt (p k))
      go_wp2_with fail
      refine hK.mono ?_
      rintro e w' ⟨⟨r, rfl, hw'⟩, rfl⟩
      have hw : IntKind.u16.wrap r = (kf p k : Int) := hw'
      clear hK hw'
      go_wp2_with fail
      go_roundw
      case rel =>
        refine ⟨k + 1, min lo (kf p k), max hi (kf p k), by omega, by go_num, by go_num, by go_num, by omega, by omega, fun h => absurd h (by omega), fun _ => by omega, fun i hi => ?_, (hr.out.set k _).congr (fun i _ => ?_), hB.out.setCell (Nat.le_refl _) _⟩
        · by_cases hik : i = k
          · subst hik; omega
          · have := hall.out i (by omega)
            omega
        · by_cases hik : i = k
          · subst hik; simp
          · have h1 : i < k + 1 ↔ i < k := by omega
            simp [hik, h1]
      case measure => simp [intOf]; omega
    · obtain rfl : k = n := by omega
      have HK : Hid (wr.rowIs w.heap.size 29 k (fun j => .int .u16 (kf p j : Int))) := hr.out.congr (fun i hi => by rw [if_pos hi])
      clear hr
      obtain ⟨S, hS, hS2, hS3, hSn⟩ : ∃ S : Nat, IntKind.u16.wrap (IntKind.u16.wrap ((hi : Int) - lo) + 2) = S ∧ 2 ≤ S ∧ S ≤ 65474 ∧ Hid (0 < k → S = hi - lo + 2) := by
        simp only [IntKind.wrap_u16]
        by_cases hk0 : k = 0
        · obtain ⟨rfl, rfl⟩ := h0 hk0
          exact ⟨3, by omega, by omega, by omega, fun h => absurd h (by omega)⟩
        · have := hlh.out (by omega)
          exact ⟨hi - lo + 2, by omega, by omega, by omega, fun _ => rfl⟩
      have hmk := run_make_row' (P := Yba.prog) 31 3 (.int .i64 0) 8 Yba.underlying31 info3 rfl .u16 .u16 S (by omega) (by omega)
      have hst : Hid ((wr.alloc (.cells (madeCells #[.int .i64 0] S) 3)).rowIs wr.heap.size 3 S (fun j => .int .i64 ((if j = 0 then 0 else ce (kf p) 0 (lo + j - 1) : Nat) : Int))) := (World.rowIs_made wr (.int .i64 0) S 3).congr (fun i _ => by simp [ce])
      have HK2 : Hid ((wr.alloc (.cells (madeCells #[.int .i64 0] S) 3)).rowIs w.heap.size 29 k (fun j => .int .u16 (kf p j : Int))) := HK.out.alloc _
      have hB2 : Hid (Below w.heap.size w (wr.alloc (.cells (madeCells #[.int .i64 0] S) 3))) := hB.out.alloc hB.out.size _
      obtain ⟨bs, hbs⟩ : ∃ bs, bs = wr.heap.size := ⟨_, rfl⟩
      have hbw : w.heap.size < bs := hbs ▸ HK.out.lt
      have hbsz : bs < (wr.alloc (.cells (madeCells #[.int .i64 0] S) 3)).heap.size := hbs ▸ hst.out.lt
      rw [← hbs] at hst
      go_wp2_with fail
      rw [← hbs]
      clear hmk
      generalize (wr.alloc (.cells (madeCells #[.int .i64 0] S) 3)) = w2 at *
      clear HK hB hbs
      go_loopw [48] (fun s48 wx => ∃ m : Nat, m ≤ k ∧ s48 = .int .i64 m ∧ Hid (wx.rowIs w.heap.size 29 k (fun j => .int .u16 (kf p j : Int))) ∧ Hid (wx.rowIs bs 3 S (fun j => .int .i64 ((if j = 0 then 0 else ce (kf p) m (lo + j - 1) : Nat) : Int))) ∧ Hid (Below w.heap.size w wx)) (fun s48 _ => k - (intOf s48).toNat)
      case atStart => exact ⟨0, Nat.zero_le _, rfl, HK2, hst, hB2⟩
      case round =>
        obtain ⟨m, hm, rfl, hKr, hSr, hB3⟩ := hrel
        clear HK2 hst hB2
        by_cases hmk : m < k
        · have hkc := hKr.out.cell hmk
          obtain ⟨j, hj⟩ : ∃ j : Nat, kf p m = lo + j := ⟨kf p m - lo, by have := hall.out m hmk; omega⟩
          have hj2 : j + 1 < S := by have := hSn.out (by omega); have := hall.out m hmk; omega
          have hw1 : IntKind.u16.wrap ((kf p m : Int) - lo) = (j : Int) := by rw [IntKind.wrap_u16, hj]; omega
          have hce : ce (kf p) m (lo + j) ≤ m := ce_le _ _ _
          have hsc : wr.cell? ⟨bs, j + 1, none⟩ = some (.int .i64 (ce (kf p) m (lo + j) : Int)) := (hSr.out.cell hj2).trans (by simp)
          have hsf : wr.frozen? ⟨bs, j + 1, none⟩ = false := hSr.out.frozen _
          go_wp2_with fail
          go_roundw
          case rel =>
            refine ⟨m + 1, by omega, by go_num, hKr.out.setOther (Nat.ne_of_lt hbw) _, (hSr.out.set (j + 1) _).congr (fun i _ => ?_), hB3.out.setCell (Nat.le_of_lt hbw) _⟩
            by_cases hi0 : i = 0
            · subst hi0; simp
            · by_cases hij : i = j + 1
              · subst hij
                simp only [if_true, if_neg (show ¬ j + 1 = 0 by omega), show lo + (j + 1) - 1 = lo + j from by omega, ce, hj]
                norm_cast
              · have h1 : ¬ kf p m = lo + i - 1 := by omega
                simp only [if_neg hij, if_neg hi0, ce, if_neg h1, Nat.add_zero]
          case measure => simp [intOf]; omega
        · obtain rfl : m = k := by omega
          have hst3 : Hid (wr.rowIs bs 3 S (fun j => .int .i64 ((if j < 0 + 1 then cl (kf p) m (lo + j) else ce (kf p) m (lo + j - 1) : Nat) : Int))) := hSr.out.congr (fun i _ => by
            by_cases hi0 : i = 0
            · subst hi0
              have := cl_low (kf p) m (fun i hi => (hall.out i hi).1)
              simp [this]
            · rw [if_neg hi0, if_neg (by omega)])
          clear hSr
          go_wp2_with fail
          go_loopw [11] (fun s11 wx => ∃ i : Nat, i + 1 ≤ S ∧ s11 = .int .i64 ((i : Int) + 1) ∧ Hid (wx.rowIs w.heap.size 29 m (fun j => .int .u16 (kf p j : Int))) ∧ Hid (wx.rowIs bs 3 S (fun j => .int .i64 ((if j < i + 1 then cl (kf p) m (lo + j) else ce (kf p) m (lo + j - 1) : Nat) : Int))) ∧ Hid (Below w.heap.size w wx)) (fun s11 _ => S - (intOf s11).toNat)
          case atStart => exact ⟨0, by omega, by go_num, hKr, hst3, hB3⟩
          case round =>
            clear hst3 hKr hB3
            obtain ⟨i, hi, rfl, hKr, hSr, hB3⟩ := hrel
            by_cases hiS : i + 1 < S
            · have hc0 : wr.cell? ⟨bs, i, none⟩ = some (.int .i64 (cl (kf p) m (lo + i) : Int)) := (hSr.out.cell (by omega)).trans (by simp)
              have hc1 : wr.cell? ⟨bs, i + 1, none⟩ = some (.int .i64 (ce (kf p) m (lo + i) : Int)) := (hSr.out.cell hiS).trans (by simp)
              have hsf : wr.frozen? ⟨bs, i + 1, none⟩ = false := hSr.out.frozen _
              have hle1 := cl_le (kf p) m (lo + i)
              have hle2 := ce_le (kf p) m (lo + i)
              go_wp2_with fail
              go_region
              go_wp2_with fail
              go_roundw
              case rel =>
                refine ⟨i + 1, by omega, by go_num, by first | exact hKr.out.setOther (Nat.ne_of_lt hbw) _ | exact (hKr.out.setOther (Nat.ne_of_lt hbw) _).drew, (hSr.out.set (i + 1) _).congr (fun x _ => ?_), Below.drew (hB3.out.setCell (p := ⟨bs, i + 1, none⟩) (Nat.le_of_lt hbw) _)⟩
                by_cases hxi : x = i + 1
                · subst hxi
                  simp only [if_true, if_pos (show i + 1 < i + 1 + 1 by omega)]
                  have := cl_succ (kf p) m (lo + i)
                  rw [show lo + (i + 1) = lo + i + 1 from by omega, this]
                  go_num
                · have h1 : x < i + 1 + 1 ↔ x < i + 1 := by omega
                  simp only [if_neg hxi, h1]
              case measure => simp [intOf]; omega
            · obtain rfl : S = i + 1 := by omega
              have hmk := run_make_row' (P := Yba.prog) 31 3 (.int .i64 0) 8 Yba.underlying31 info3 rfl .i64 .i64 m (by omega) (by omega)
              have hO : Hid ((wr.alloc (.cells (madeCells #[.int .i64 0] m) 3)).rowIs wr.heap.size 3 m (fun j => .int .i64 (((fun _ => 0) j : Nat) : Int))) := World.rowIs_made wr (.int .i64 0) m 3
              have hK4 : Hid ((wr.alloc (.cells (madeCells #[.int .i64 0] m) 3)).rowIs w.heap.size 29 m (fun j => .int .u16 (kf p j : Int))) := hKr.out.alloc _
              have hS4 : Hid ((wr.alloc (.cells (madeCells #[.int .i64 0] m) 3)).rowIs bs 3 (i + 1) (fun j => .int .i64 ((cl (kf p) m (lo + j) + ce (kf p) 0 (lo + j) : Nat) : Int))) := (hSr.out.alloc _).congr (fun x hx => by rw [if_pos hx]; rfl)
              have hB4 : Hid (Below w.heap.size w (wr.alloc (.cells (madeCells #[.int .i64 0] m) 3))) := hB3.out.alloc hB3.out.size _
              obtain ⟨bo, hbo⟩ : ∃ bo, bo = wr.heap.size := ⟨_, rfl⟩
              have hbso : bs < bo := hbo ▸ hSr.out.lt
              rw [← hbo] at hO
              go_wp2_with fail
              rw [← hbo]
              clear hmk hKr hSr hB3 hbo
              generalize (wr.alloc (.cells (madeCells #[.int .i64 0] m) 3)) = w4 at *
              go_loopw [84] (fun s84 wx => ∃ (q : Nat) (O : Nat → Nat), q ≤ m ∧ s84 = .int .i64 q ∧ Hid (wx.rowIs w.heap.size 29 m (fun j => .int .u16 (kf p j : Int))) ∧ Hid (wx.rowIs bs 3 (i + 1) (fun j => .int .i64 ((cl (kf p) m (lo + j) + ce (kf p) q (lo + j) : Nat) : Int))) ∧ Hid (wx.rowIs bo 3 m (fun j => .int .i64 (O j : Int))) ∧ Hid (∀ x, x < q → O (pos (kf p) m x) = x) ∧ Hid (Below w.heap.size w wx)) (fun s84 _ => m - (intOf s84).toNat)
              case atStart => exact ⟨0, fun _ => 0, Nat.zero_le _, rfl, hK4, hS4, hO, fun x hx => absurd hx (by omega), hB4⟩
              case round =>
                clear hK4 hS4 hO hB4
                obtain ⟨q, O, hq, rfl, hKr, hSr, hOr, hpos, hB3⟩ := hrel
                by_cases hqm : q < m
                · have hkc := hKr.out.cell hqm
                  obtain ⟨j, hj⟩ : ∃ j : Nat, kf p q = lo + j := ⟨kf p q - lo, by have := hall.out q hqm; omega⟩
                  have hj2 : j < i + 1 := by have := hSn.out (by omega); have := hall.out q hqm; omega
                  have hw1 : IntKind.u16.wrap ((kf p q : Int) - lo) = (j : Int) := by rw [IntKind.wrap_u16, hj]; omega
                  have hpp : pos (kf p) m q = cl (kf p) m (lo + j) + ce (kf p) q (lo + j) := by unfold pos; rw [hj]
                  have hsc : wr.cell? ⟨bs, j, none⟩ = some (.int .i64 (pos (kf p) m q : Int)) := by rw [hpp]; exact hSr.out.cell hj2
                  have hsf : wr.frozen? ⟨bs, j, none⟩ = false := hSr.out.frozen _
                  have hpl := pos_lt (kf p) hqm
                  obtain ⟨u, hu⟩ : ∃ u, wr.cell? ⟨bo, pos (kf p) m q, none⟩ = some u := ⟨_, hOr.out.cell hpl⟩
                  have hof : wr.frozen? ⟨bo, pos (kf p) m q, none⟩ = false := hOr.out.frozen _
                  have hsc2 : (wr.setCell ⟨bo, pos (kf p) m q, none⟩ (.int .i64 q)).cell? ⟨bs, j, none⟩ = some (.int .i64 (pos (kf p) m q : Int)) := ((hSr.out.setOther (Nat.ne_of_lt hbso) _).cell hj2).trans (by rw [hpp])
                  have hbne : bs ≠ bo := Nat.ne_of_lt hbso
                  have HPP := hidE hpp
                  clear hpp
                  go_wp2_with fail
                  go_roundw
                  case rel =>
                    refine ⟨q + 1, fun x => if x = pos (kf p) m q then q else O x, by omega, by go_num, (hKr.out.setOther (Nat.ne_of_lt (Nat.lt_trans hbw hbso)) _).setOther (Nat.ne_of_lt hbw) _, ((hSr.out.setOther hbne _).set j _).congr (fun x _ => ?_), ((hOr.out.set (pos (kf p) m q) _).setOther (Ne.symm hbne) _).congr (fun x _ => ?_), fun x hx => ?_, (hB3.out.setCell (p := ⟨bo, pos (kf p) m q, none⟩) (Nat.le_of_lt (Nat.lt_trans hbw hbso)) _).setCell (p := ⟨bs, j, none⟩) (Nat.le_of_lt hbw) _⟩
                    · by_cases hxj : x = j
                      · subst hxj
                        simp only [if_true, HPP.out, ce, hj]
                        go_num
                      · have h1 : ¬ kf p q = lo + x := by omega
                        simp only [if_neg hxj, ce, if_neg h1, Nat.add_zero]
                    · by_cases hxp : x = pos (kf p) m q
                      · subst hxp; simp
                      · simp [hxp]
                    · by_cases hxq : x = q
                      · subst hxq; simp
                      · have h1 := pos_ne (kf p) (show x < m by omega) hqm hxq
                        simp only [if_neg h1]
                        exact hpos.out x (by omega)
                  case measure => simp [intOf]; omega
                · obtain rfl : q = m := by omega
                  go_wp2_with fail
                  go_ret
                  exact ⟨bo, O, rfl, hOr.out, hpos.out, Nat.le_of_lt (Nat.lt_trans hbw hbso), hB3.out⟩
end Go.Proofs.Ybulkcxqe
