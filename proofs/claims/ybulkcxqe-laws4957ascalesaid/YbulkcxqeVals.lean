import Derived.Test.YbulkcxqeByPower
import Derived.Deep.MidRow
namespace Go.Proofs.Ybulkcxqe
open Go.RowKit Go.Deep

/-! ### A row of validators: 22 cells each: the address, the name, the power -/
def vcell (p : Int) (j : Nat) : Value := if j < 20 then .int .u8 0 else if j = 20 then .string .empty else .int .i64 p
def vcells (p : Int) : Array Value := #[.int .u8 0, .int .u8 0, .int .u8 0, .int .u8 0, .int .u8 0, .int .u8 0, .int .u8 0, .int .u8 0, .int .u8 0, .int .u8 0, .int .u8 0, .int .u8 0, .int .u8 0, .int .u8 0, .int .u8 0, .int .u8 0, .int .u8 0, .int .u8 0, .int .u8 0, .int .u8 0, .string .empty, .int .i64 p]
theorem info28 : (Yba.prog.info? 28).map (fun i => (i.zero, i.size, i.bytes)) = some (some (.agg (vcells 0)), 22, 48) := by kernel_rfl
theorem vcells_get (p : Int) : ∀ j, j < 22 → (vcells p)[j]? = some (vcell p j)
  | 0, _ | 1, _ | 2, _ | 3, _ | 4, _ | 5, _ | 6, _ | 7, _ | 8, _ | 9, _ | 10, _ | 11, _ | 12, _ | 13, _ | 14, _ | 15, _ | 16, _ | 17, _ | 18, _ | 19, _ | 20, _ | 21, _ => rfl
  | n + 22, h => absurd h (by omega)
theorem size28 : (Yba.prog.info? 28).map (·.size) = some 22 := by kernel_rfl
theorem vcells_size (p : Int) : (vcells p).size = 22 := rfl
theorem vcells_one (p : Int) : (vcells p).all (·.oneCell') = true := by simp [vcells, Value.oneCell']

/-- The row of the first k of 'p', zeroes behind. -/
def vrow (p : Nat → Int) (k j : Nat) : Value := vcell (if j / 22 < k then p (j / 22) else 0) (j % 22)

theorem make_vals (w : World) (n : Nat) (hn : n ≤ 1024) : (Instr.makeSlice 23 (.int .i64 (n : Int)) (.int .i64 (n : Int))).run Yba.prog w = .ok (.slice (some ⟨w.heap.size, 0, none⟩) n n) (w.alloc (.cells (madeCells (vcells 0) (n * 22)) 28)) := by
  have h28 := info28
  cases hi : Yba.prog.info? 28 with
  | none => rw [hi] at h28; simp at h28
  | some i =>
    rw [hi] at h28
    simp only [Option.map_some, Option.some.injEq, Prod.mk.injEq] at h28
    obtain ⟨hz, hs, hb⟩ := h28
    have := run_make (P := Yba.prog) w 23 28 i (.agg (vcells 0)) Yba.underlying23 hi hz .i64 .i64 n n (by omega) (by omega) (by rw [hb]; omega) (by omega)
    rw [this, hs]
    simp only [Int.toNat_natCast]
    rfl

theorem rowIs_vals (w : World) (p : Nat → Int) (n : Nat) : (w.alloc (.cells (madeCells (vcells 0) (n * 22)) 28)).rowIs w.heap.size 28 (n * 22) (vrow p 0) :=
  ⟨_, Go.Deep.blk_alloc_new _ _, size_madeCells _ _, fun i hi => by
    have h1 := vcells_get 0 (i % 22) (Nat.mod_lt _ (by omega))
    simp only [madeCells, vcells_size, vrow, Nat.not_lt_zero, if_false]
    rw [Array.getElem?_map, Array.getElem?_range, if_pos hi]
    simp only [Option.map_some]
    rw [getElem!_def, h1]⟩

theorem rowIs_setCells {b : Nat} {t : TypeId} {n : Nat} : ∀ (vs : List Value) (o : Nat) (w : World) (f : Nat → Value), w.rowIs b t n f → (w.setCells b o vs).rowIs b t n (fun j => if o ≤ j ∧ j < o + vs.length then vs.getD (j - o) undef else f j)
  | [], o, w, f, h => h.congr (fun i _ => by rw [if_neg (by simp only [List.length_nil]; omega)])
  | v :: r, o, w, f, h => by
    refine (rowIs_setCells r (o + 1) _ _ (h.set o v)).congr (fun i _ => ?_)
    simp only [List.length_cons]
    by_cases h1 : i = o
    · subst h1
      rw [if_neg (by omega), if_pos rfl, if_pos (by omega)]
      simp
    · rw [if_neg h1]
      by_cases h2 : o + 1 ≤ i ∧ i < o + 1 + r.length
      · rw [if_pos h2, if_pos (by omega), show i - o = (i - (o + 1)) + 1 from by omega]
        rfl
      · rw [if_neg h2, if_neg (by omega)]
theorem rowIs_setCells_other {b b' : Nat} {t : TypeId} {n : Nat} {f : Nat → Value} (hb : b ≠ b') : ∀ (vs : List Value) (o : Nat) (w : World), w.rowIs b t n f → (w.setCells b' o vs).rowIs b t n f
  | [], _, _, h => h
  | v :: r, o, _, h => rowIs_setCells_other hb r (o + 1) _ (h.setOther hb v)
theorem below_setCells {B b : Nat} (hb : B ≤ b) {w0 : World} : ∀ (vs : List Value) (o : Nat) (w : World), Below B w0 w → Below B w0 (w.setCells b o vs)
  | [], _, _, h => h
  | v :: r, o, _, h => below_setCells hb r (o + 1) _ (h.setCell (p := ⟨b, o, none⟩) hb v)

/-- One more is laid. -/
theorem rowIs_vals_set {w : World} {b n k : Nat} {p : Nat → Int} (h : w.rowIs b 28 (n * 22) (vrow p k)) : (w.setCells b (k * 22) (vcells (p k)).toList).rowIs b 28 (n * 22) (vrow p (k + 1)) := by
  refine (rowIs_setCells _ _ _ _ h).congr (fun i _ => ?_)
  have hl : (vcells (p k)).toList.length = 22 := rfl
  rw [hl]
  by_cases h1 : k * 22 ≤ i ∧ i < k * 22 + 22
  · rw [if_pos h1]
    have e1 : i / 22 = k := by omega
    have e2 : i % 22 = i - k * 22 := by omega
    unfold vrow
    rw [e1, e2, if_pos (by omega)]
    have := vcells_get (p k) (i - k * 22) (by omega)
    rw [List.getD_eq_getElem?_getD, Array.getElem?_toList, this]
    rfl
  · rw [if_neg h1]
    unfold vrow
    have e1 : i / 22 < k + 1 ↔ i / 22 < k := by omega
    simp only [e1]
theorem there_vals {w : World} {b n k : Nat} {f : Nat → Value} (h : w.rowIs b 28 (n * 22) f) (hk : k < n) : w.there b (k * 22) 22 := fun j hj =>
  ⟨by rw [h.cell (by omega)]; rfl, h.frozen _⟩
theorem vrow_power {p : Nat → Int} {n k : Nat} (hk : k < n) : vrow p n (k * 22 + 21) = .int .i64 (p k) := by
  unfold vrow
  have e1 : (k * 22 + 21) / 22 = k := by omega
  have e2 : (k * 22 + 21) % 22 = 21 := by omega
  rw [e1, e2, if_pos hk]
  rfl
end Go.Proofs.Ybulkcxqe
