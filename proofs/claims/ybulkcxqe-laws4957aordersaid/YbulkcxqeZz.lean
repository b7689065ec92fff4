import Derived.Test.YbulkcxqePow
namespace Go.Proofs.Ybulkcxqe
open Go.RowKit Go.Deep

theorem u64_and63 (n : Nat) (h : n < 18446744073709551616) : bits .and .u64 (n : Int) 63 = ((n % 64 : Nat) : Int) := by
  rw [show (63 : Int) = ((63 : Nat) : Int) from rfl, u64_and_nat n 63 h (by omega), nat_mask6]
theorem div_succ (u d : Nat) : u / 2 ^ d / 2 = u / 2 ^ (d + 1) := by rw [Nat.div_div_eq_div_mul, Nat.pow_succ]
theorem div_more {u d : Nat} (h0 : u ≠ 0) (h : u < 18446744073709551616) (hd : u / 2 ^ d ≠ 0) : d < Lib.bitLen u := by
  have hb := len_bounds h0 h
  have h1 : 2 ^ d ≤ u := by
    rcases Nat.lt_or_ge u (2 ^ d) with h2 | h2
    · exact absurd (Nat.div_eq_of_lt h2) hd
    · exact h2
  exact (Nat.pow_lt_pow_iff_right (show 1 < 2 by omega)).1 (Nat.lt_of_le_of_lt h1 hb.2.2.2)
theorem div_end {u d : Nat} (h0 : u ≠ 0) (h : u < 18446744073709551616) (hl : d ≤ Lib.bitLen u) (hd : u / 2 ^ d = 0) : d = Lib.bitLen u := by
  have hb := len_bounds h0 h
  have h1 : u < 2 ^ d := by
    rcases Nat.lt_or_ge u (2 ^ d) with h2 | h2
    · exact h2
    · have := Nat.div_pos h2 (Nat.pow_pos (show 0 < 2 by omega)); omega
  have h2 := (Nat.pow_lt_pow_iff_right (show 1 < 2 by omega)).1 (Nat.lt_of_le_of_lt hb.2.2.1 h1)
  omega

set_option maxHeartbeats 400000 in
theorem zzkey_any (p : Int) (w : World) :
    Calls Yba.prog 7 #[.int .i64 p] w fun e w' => e = .returned (.int .u16 (kb (ub p) : Int)) ∧ w' = w := by
  have hu : IntKind.u64.wrap p = (ub p : Int) := by rw [IntKind.wrap_u64]; unfold ub; omega
  have hlt := ub_lt p
  by_cases hz : ub p = 0
  · rw [hz]
    rw [hz] at hu
    go_enter Yba.func7, Yba.ntmps7
    go_wp2_with fail
    go_ret
    exact ⟨rfl, rfl⟩
  · have hb := len_bounds hz hlt
    have hb1 : 1 ≤ Lib.bitLen (ub p) := hb.1
    have hb2 : Lib.bitLen (ub p) ≤ 64 := hb.2.1
    clear hb
    have hk : Hid (kb (ub p) = (Lib.bitLen (ub p) - 1) * 64 + mant (ub p) (Lib.bitLen (ub p))) := by unfold kb; exact if_neg hz
    have hm := mant_lt (ub p) (Lib.bitLen (ub p))
    have hmore : Hid (∀ d, ub p / 2 ^ d ≠ 0 → d < Lib.bitLen (ub p)) := fun d hd => div_more hz hlt hd
    have hend : Hid (∀ d, d ≤ Lib.bitLen (ub p) → ub p / 2 ^ d = 0 → d = Lib.bitLen (ub p)) := fun d hl hd => div_end hz hlt hl hd
    have hmant : Hid (mant (ub p) (Lib.bitLen (ub p)) = (if 7 < Lib.bitLen (ub p) then ub p / 2 ^ (Lib.bitLen (ub p) - 7) else ub p * 2 ^ (7 - Lib.bitLen (ub p))) % 64) := rfl
    generalize kb (ub p) = KB at *
    generalize mant (ub p) (Lib.bitLen (ub p)) = M at *
    generalize Lib.bitLen (ub p) = D at *
    generalize ub p = U at *
    have hne : ((U : Int) == 0) = false := by simp [hz]
    go_enter Yba.func7, Yba.ntmps7
    go_wp2_with fail
    go_loop [4, 5] (fun s4 s5 => ∃ d v : Nat, d ≤ D ∧ v ≤ U ∧ s4 = .int .i64 d ∧ s5 = .int .u64 v ∧ Hid (v = U / 2 ^ d)) (fun _ s5 => (intOf s5).toNat)
    case atStart => exact ⟨0, U, by omega, by omega, rfl, rfl, by show U = U / 2 ^ 0; simp⟩
    case round =>
      obtain ⟨d, v, hd, hv, rfl, rfl, hvd⟩ := hrel
      by_cases hv0 : v = 0
      · subst hv0
        obtain rfl : d = D := hend.out d hd hvd.out.symm
        by_cases h7 : 7 < d
        · go_wp2_with fail
          go_ret
          refine ⟨?_, rfl⟩
          have e : bits BinOp.and IntKind.u64 ((U : Int) / 2 ^ (d - 7)) 63 = (M : Int) := by
            have e1 : (U : Int) / 2 ^ (d - 7) = ((U / 2 ^ (d - 7) : Nat) : Int) := by norm_cast
            rw [e1, u64_and63 _ (Nat.lt_of_le_of_lt (Nat.div_le_self _ _) hlt), hmant.out, if_pos h7]
          rw [e, hk.out, IntKind.wrap_u16]
          unfold wrap64
          go_num
        · go_wp2_with fail
          go_ret
          refine ⟨?_, rfl⟩
          have e : bits BinOp.and IntKind.u64 (IntKind.u64.wrap ((U : Int) * 2 ^ (7 - d))) 63 = (M : Int) := by
            have e1 : IntKind.u64.wrap ((U : Int) * 2 ^ (7 - d)) = ((U * 2 ^ (7 - d) % 18446744073709551616 : Nat) : Int) := by
              have e0 : (U : Int) * 2 ^ (7 - d) = ((U * 2 ^ (7 - d) : Nat) : Int) := by norm_cast
              rw [IntKind.wrap_u64, e0]
              generalize U * 2 ^ (7 - d) = Y
              omega
            rw [e1, u64_and63 _ (Nat.mod_lt _ (by omega)), hmant.out, if_neg h7]
            generalize U * 2 ^ (7 - d) = Y
            omega
          rw [e, hk.out, IntKind.wrap_u16]
          unfold wrap64
          go_num
      · have hvb : ((v : Int) != 0) = true := by simp [hv0]
        have hdD := hmore.out d (by rw [← hvd.out]; exact hv0)
        go_wp2_with fail
        go_round
        case rel => exact ⟨d + 1, v / 2, by omega, by omega, by go_num, by go_num, by show v / 2 = U / 2 ^ (d + 1); rw [← div_succ, ← hvd.out]⟩
        case measure => simp [intOf]; omega
end Go.Proofs.Ybulkcxqe
