import Derived.Test.YbulkcxqeExact
import Derived.Test.YbulkcxqeKeys
import Derived.Test.YbulkcxqeShelf
import Derived.Laws.BitsAllLaws
import Derived.Laws.BitsLemmas
namespace Go.Proofs.Ybulkcxqe
open Go.RowKit Go.Deep

/-- A power's 64 bits. -/
def ub (p : Int) : Nat := (p % 18446744073709551616).toNat
theorem ub_lt (p : Int) : ub p < 18446744073709551616 := by unfold ub; omega

theorem i64_and63 (n : Int) : bits .and .i64 n 63 = n % 64 := by
  have h63 : (BitVec.ofInt 64 63).toNat = 2 ^ 6 - 1 := by decide
  have key : (BitVec.ofInt 64 n &&& BitVec.ofInt 64 63).toNat = (n % ((2 ^ 64 : Nat) : Int)).toNat % 2 ^ 6 := by
    rw [BitVec.toNat_and, BitVec.toNat_ofInt, h63, Nat.and_two_pow_sub_one_eq_mod]
  show IntKind.i64.wrap ((BitVec.ofInt 64 n &&& BitVec.ofInt 64 63).toNat : Nat) = n % 64
  rw [key, IntKind.wrap_i64]
  omega
theorem i64_or64 (a y : Nat) (ha : a < 64) (hy : y < 64) : bits .or .i64 ((a * 64 : Nat) : Int) (y : Int) = ((a * 64 + y : Nat) : Int) := by
  show IntKind.i64.wrap ((BitVec.ofInt 64 ((a * 64 : Nat) : Int) ||| BitVec.ofInt 64 (y : Int)).toNat : Int) = _
  rw [BitVec.toNat_or, ofInt_u64 (a * 64) (by omega), ofInt_u64 y (by omega), nat_join 6 (a * 64) y (by omega) (by omega), IntKind.wrap_i64]
  omega
theorem i64_or_m64 : bits .or .i64 (-64) 0 = -64 := by decide

theorem mod_shift (a : Int) (m : Nat) : wrap64 (a * 2 ^ m) % 64 = (a * 2 ^ m) % 64 := by
  unfold wrap64; omega

theorem mant_up {p : Int} (h0 : 0 ≤ p) (h1 : p ≤ 9223372036854775807) {d : Nat} (hd : ¬ 7 < d) : wrap64 (p * 2 ^ (7 - d)) % 64 = mant (ub p) d := by
  rw [mod_shift]
  unfold mant
  rw [if_neg hd]
  obtain ⟨P, rfl⟩ := Int.eq_ofNat_of_zero_le h0
  have e : ub (P : Int) = P := by unfold ub; omega
  rw [e]
  norm_cast
theorem mant_down {p : Int} (h0 : -9223372036854775808 ≤ p) (h1 : p ≤ 9223372036854775807) (hd : 7 < Lib.bitLen (ub p)) : p / 2 ^ (Lib.bitLen (ub p) - 7) % 64 = mant (ub p) (Lib.bitLen (ub p)) := by
  unfold mant
  rw [if_pos hd]
  rcases Int.lt_or_le p 0 with hn | hp
  · have e : (ub p : Int) = p + 18446744073709551616 := by unfold ub; omega
    have hl : Lib.bitLen (ub p) = 64 := len_unique (by omega) (ub_lt p) (by omega) (ub_lt p)
    rw [hl]
    show p / 144115188075855872 % 64 = ((ub p / 144115188075855872 % 64 : Nat) : Int)
    omega
  · obtain ⟨P, rfl⟩ := Int.eq_ofNat_of_zero_le hp
    have e : ub (P : Int) = P := by unfold ub; omega
    rw [e]
    norm_cast

theorem powerKey_any (p : Int) (w : World) (h0 : -9223372036854775808 ≤ p) (h1 : p ≤ 9223372036854775807) :
    Calls Yba.prog 10 #[.int .i64 p] w fun e w' => (∃ r : Int, e = .returned (.int .i64 r) ∧ IntKind.u16.wrap r = kb (ub p)) ∧ w' = w := by
  have hL : Calls Yba.prog 11 #[.int .u64 (p % 18446744073709551616)] w fun e w' => e = .returned (.int .i64 (Lib.bitLen (ub p))) ∧ w' = w := Yba.bits_Len64 (p % 18446744073709551616) w (by omega) (by omega)
  have hm := mant_lt (ub p) (Lib.bitLen (ub p))
  have hlt := ub_lt p
  by_cases hz : ub p = 0
  · have hp : p = 0 := by unfold ub at hz; omega
    subst hp
    rw [hz, len_zero] at hL
    rw [hz]
    go_enter Yba.func10, Yba.ntmps10
    go_wp2_with fail
    refine hL.mono ?_
    rintro e w' ⟨rfl, rfl⟩
    go_wp2_with fail
    go_ret
    refine ⟨⟨_, rfl, ?_⟩, rfl⟩
    rfl
  · have hb := len_bounds hz hlt
    have hb1 : 1 ≤ Lib.bitLen (ub p) := hb.1
    have hb2 : Lib.bitLen (ub p) ≤ 64 := hb.2.1
    have hb3 := hb.2.2.2
    clear hb
    by_cases hd : 7 < Lib.bitLen (ub p)
    · have hmd := hidE (mant_down h0 h1 hd)
      have hk : kb (ub p) = (Lib.bitLen (ub p) - 1) * 64 + mant (ub p) (Lib.bitLen (ub p)) := by unfold kb; rw [if_neg hz]
      clear hb3 hlt hz
      generalize kb (ub p) = KB at *
      generalize mant (ub p) (Lib.bitLen (ub p)) = M at *
      generalize Lib.bitLen (ub p) = D at *
      go_enter Yba.func10, Yba.ntmps10
      go_wp2_with fail
      refine hL.mono ?_
      rintro e w' ⟨rfl, rfl⟩
      go_wp2_with fail
      go_ret
      refine ⟨⟨_, rfl, ?_⟩, rfl⟩
      rw [i64_and63, hmd.out, show ((D : Int) - 1) * 64 = (((D - 1) * 64 : Nat) : Int) from by omega, i64_or64 _ _ (by omega) hm, ← hk, IntKind.wrap_u16]
      omega
    · have hp : 0 ≤ p := by
        rcases Int.lt_or_le p 0 with hn | hp
        · exfalso
          have e : (ub p : Int) = p + 18446744073709551616 := by unfold ub; omega
          have := Nat.pow_le_pow_right (show 0 < 2 by omega) (show Lib.bitLen (ub p) ≤ 7 by omega)
          omega
        · exact hp
      have hmd := hidE (mant_up hp h1 hd)
      clear hp h1
      have hk : kb (ub p) = (Lib.bitLen (ub p) - 1) * 64 + mant (ub p) (Lib.bitLen (ub p)) := by unfold kb; rw [if_neg hz]
      clear hb3 hlt hz
      generalize kb (ub p) = KB at *
      generalize mant (ub p) (Lib.bitLen (ub p)) = M at *
      generalize Lib.bitLen (ub p) = D at *
      go_enter Yba.func10, Yba.ntmps10
      go_wp2_with fail
      refine hL.mono ?_
      rintro e w' ⟨rfl, rfl⟩
      go_wp2_with fail
      go_ret
      refine ⟨⟨_, rfl, ?_⟩, rfl⟩
      rw [i64_and63, hmd.out, show ((D : Int) - 1) * 64 = (((D - 1) * 64 : Nat) : Int) from by omega, i64_or64 _ _ (by omega) hm, ← hk, IntKind.wrap_u16]
      omega
end Go.Proofs.Ybulkcxqe
