import Derived.Lib.EndianZ
namespace Go.Proofs.YbulkcxpqFmt
open Go

/-- Bytes as numbers. -/
def Bytes (zs : List Int) : Prop := ∀ z ∈ zs, 0 ≤ z ∧ z ≤ 255

/-- The number that four bytes from a place on spell, the greatest first. -/
def be4 (zs : List Int) (p : Nat) : Nat := (Lib.beZ ((zs.drop p).take 4)).toNat

/-- The parts that a payload's transactions take: 'k' more are let. -/
def segs : Nat → List Int → Nat → Option (List (Nat × Nat))
  | 0, zs, p => if zs.length ≤ p then some [] else none
  | k + 1, zs, p =>
    if zs.length ≤ p then some []
    else if zs.length - p < 4 then none
    else if be4 zs p = 0 ∨ 65536 < be4 zs p then none
    else if zs.length - (p + 4) < be4 zs p then none
    else (segs k zs (p + 4 + be4 zs p)).map ((p + 4, be4 zs p) :: ·)

theorem segs_end (k : Nat) (zs : List Int) (p : Nat) (h : zs.length ≤ p) : segs k zs p = some [] := by
  cases k <;> simp [segs, h]
theorem segs_zero (zs : List Int) (p : Nat) (h : ¬ zs.length ≤ p) : segs 0 zs p = none := by simp [segs, h]
theorem segs_short (k : Nat) (zs : List Int) (p : Nat) (h : ¬ zs.length ≤ p) (h4 : zs.length - p < 4) : segs k zs p = none := by
  cases k <;> simp [segs, h, h4]
theorem segs_bad (k : Nat) (zs : List Int) (p : Nat) (h4 : ¬ zs.length - p < 4) (hb : be4 zs p = 0 ∨ 65536 < be4 zs p) : segs k zs p = none := by
  have h : ¬ zs.length ≤ p := by omega
  cases k with
  | zero => simp [segs, h]
  | succ k => simp only [segs]; rw [if_neg h, if_neg h4, if_pos hb]
theorem segs_cut (k : Nat) (zs : List Int) (p : Nat) (h4 : ¬ zs.length - p < 4) (hc : zs.length - (p + 4) < be4 zs p) : segs k zs p = none := by
  have h : ¬ zs.length ≤ p := by omega
  cases k with
  | zero => simp [segs, h]
  | succ k =>
    simp only [segs]; rw [if_neg h, if_neg h4]
    rw [if_pos hc]
    split <;> rfl
theorem segs_step (k : Nat) (zs : List Int) (p : Nat) (h4 : ¬ zs.length - p < 4) (hb : ¬ (be4 zs p = 0 ∨ 65536 < be4 zs p)) (hc : ¬ zs.length - (p + 4) < be4 zs p) :
    segs (k + 1) zs p = (segs k zs (p + 4 + be4 zs p)).map ((p + 4, be4 zs p) :: ·) := by
  have h : ¬ zs.length ≤ p := by omega
  simp only [segs]; rw [if_neg h, if_neg h4, if_neg hb, if_neg hc]

/-- Where a walk of the list stands: 'acc' found, the next at 'p'. -/
def Stands (zs : List Int) (p0 : Nat) (acc : List (Nat × Nat)) (p : Nat) : Prop :=
  acc.length ≤ 1000 ∧ segs 1000 zs p0 = (segs (1000 - acc.length) zs p).map (acc ++ ·)

theorem stands_start (zs : List Int) (p : Nat) : Stands zs p [] p := ⟨by simp, by simp⟩
theorem Stands.done {zs : List Int} {p0 p : Nat} {acc : List (Nat × Nat)} (h : Stands zs p0 acc p) (hp : zs.length ≤ p) : segs 1000 zs p0 = some acc := by
  rw [h.2, segs_end _ _ _ hp]; simp
theorem Stands.many {zs : List Int} {p0 p : Nat} {acc : List (Nat × Nat)} (h : Stands zs p0 acc p) (hp : p < zs.length) (hn : acc.length = 1000) : segs 1000 zs p0 = none := by
  rw [h.2, hn, segs_zero _ _ (by omega)]; simp
theorem Stands.short {zs : List Int} {p0 p : Nat} {acc : List (Nat × Nat)} (h : Stands zs p0 acc p) (hp : p < zs.length) (h4 : zs.length - p < 4) : segs 1000 zs p0 = none := by
  rw [h.2, segs_short _ _ _ (by omega) h4]; simp
theorem Stands.bad {zs : List Int} {p0 p : Nat} {acc : List (Nat × Nat)} (h : Stands zs p0 acc p) (h4 : p + 4 ≤ zs.length) (hb : be4 zs p = 0 ∨ 65536 < be4 zs p) : segs 1000 zs p0 = none := by
  rw [h.2, segs_bad _ _ _ (by omega) hb]; simp
theorem Stands.cut {zs : List Int} {p0 p : Nat} {acc : List (Nat × Nat)} (h : Stands zs p0 acc p) (h4 : p + 4 ≤ zs.length) (hc : zs.length - (p + 4) < be4 zs p) : segs 1000 zs p0 = none := by
  rw [h.2, segs_cut _ _ _ (by omega) hc]; simp
theorem Stands.step {zs : List Int} {p0 p : Nat} {acc : List (Nat × Nat)} (h : Stands zs p0 acc p) (hn : acc.length < 1000) (h4 : p + 4 ≤ zs.length) (h0 : 0 < be4 zs p) (h1 : be4 zs p ≤ 65536) (hc : p + 4 + be4 zs p ≤ zs.length) :
    Stands zs p0 (acc ++ [(p + 4, be4 zs p)]) (p + 4 + be4 zs p) := by
  obtain ⟨k, hk⟩ : ∃ k, 1000 - acc.length = k + 1 := ⟨1000 - acc.length - 1, by omega⟩
  refine ⟨by simp; omega, ?_⟩
  rw [h.2, hk, segs_step k zs p (by omega) (by omega) (by omega)]
  have e : 1000 - (acc ++ [(p + 4, be4 zs p)]).length = k := by simp; omega
  rw [e, Option.map_map]
  congr 1
  funext l
  simp

theorem beFromZ_bounds : ∀ (l : List Int) (a : Int), 0 ≤ a → Bytes l → a * 256 ^ l.length ≤ Lib.beFromZ a l ∧ Lib.beFromZ a l < (a + 1) * 256 ^ l.length
  | [], a, _, _ => by simp [Lib.beFromZ]; omega
  | z :: r, a, ha, hb => by
    have hz := hb z (by simp)
    have ih := beFromZ_bounds r (a * 256 + z) (by omega) (fun y hy => hb y (by simp [hy]))
    simp only [Lib.beFromZ, List.length_cons, Int.pow_succ]
    have hp : (0 : Int) < 256 ^ r.length := Int.pow_pos (by decide)
    generalize (256 : Int) ^ r.length = P at *
    obtain ⟨i1, i2⟩ := ih
    have e1 : a * (P * 256) ≤ (a * 256 + z) * P := by
      have : (a * 256 + z) * P = a * (P * 256) + z * P := by rw [Int.add_mul, Int.mul_assoc, Int.mul_comm 256 P]
      rw [this]; have := Int.mul_nonneg hz.1 (Int.le_of_lt hp); omega
    have e2 : (a * 256 + z + 1) * P ≤ (a + 1) * (P * 256) := by
      have : (a + 1) * (P * 256) = (a * 256 + 256) * P := by
        rw [Int.add_mul a 1, Int.one_mul, Int.add_mul, Int.mul_assoc, Int.mul_comm 256 P]
      rw [this]; exact Int.mul_le_mul_of_nonneg_right (by omega) (Int.le_of_lt hp)
    exact ⟨Int.le_trans e1 i1, Int.lt_of_lt_of_le i2 e2⟩

theorem Bytes.part {zs : List Int} (h : Bytes zs) (p k : Nat) : Bytes ((zs.drop p).take k) := fun z hz => h z (List.mem_of_mem_drop (List.mem_of_mem_take hz))

theorem be4_eq (zs : List Int) (h : Bytes zs) (p : Nat) (hp : p + 4 ≤ zs.length) : ((be4 zs p : Nat) : Int) = Lib.beZ ((zs.drop p).take 4) ∧ be4 zs p < 4294967296 := by
  have := beFromZ_bounds ((zs.drop p).take 4) 0 (by omega) (h.part p 4)
  have hl : ((zs.drop p).take 4).length = 4 := by simp; omega
  rw [hl] at this
  unfold be4 Lib.beZ
  omega
theorem be8_bounds (zs : List Int) (h : Bytes zs) (hp : 8 ≤ zs.length) : 0 ≤ Lib.beZ (zs.take 8) ∧ Lib.beZ (zs.take 8) < 18446744073709551616 := by
  have := beFromZ_bounds ((zs.drop 0).take 8) 0 (by omega) (h.part 0 8)
  have hl : ((zs.drop 0).take 8).length = 8 := by simp; omega
  rw [hl] at this
  simp only [List.drop_zero] at this
  unfold Lib.beZ
  omega
end Go.Proofs.YbulkcxpqFmt
