import Derived.Test.YbulkcxpqFmtPlain
import Derived.Lib.EndianMore
namespace Go.Proofs.YbulkcxpqFmt
open Go

/-- A number's k least bytes, the greatest first, as numbers. -/
def bz (k v : Nat) : List Int := (Lib.beBytes k v).map (fun b => ((b.toNat : Nat) : Int))
theorem bz_length (k v : Nat) : (bz k v).length = k := by simp [bz, Lib.beBytes_length]
theorem bz_bytes (k v : Nat) : Bytes (bz k v) := by
  intro z hz
  obtain ⟨b, _, rfl⟩ := List.mem_map.1 hz
  have := b.toNat_lt
  omega
theorem beFromZ_map : ∀ (l : List UInt8) (a : Nat), Lib.beFromZ a (l.map (fun b => ((b.toNat : Nat) : Int))) = ((Lib.beFrom a l : Nat) : Int)
  | [], _ => rfl
  | b :: r, a => by
    simp only [List.map_cons, Lib.beFromZ, Lib.beFrom]
    rw [← beFromZ_map r (a * 256 + b.toNat)]
    congr 1
theorem beZ_bz (k v : Nat) (h : v < 256 ^ k) : Lib.beZ (bz k v) = v := by
  have := beFromZ_map (Lib.beBytes k v) 0
  have h2 := Lib.beNat_beBytes k v h
  unfold Lib.beNat at h2
  rw [h2] at this
  exact this

/-- One transaction, as it is written. -/
def enc1 (t : List Int) : List Int := bz 4 t.length ++ t
def encs (ts : List (List Int)) : List Int := ts.flatMap enc1
def enc (round : Nat) (ts : List (List Int)) : List Int := bz 8 round ++ encs ts
/-- A transaction as the law lets it in. -/
def norm (z : List Int) : List Int := if z.length = 0 then [90] else z.take 65536
theorem norm_length (z : List Int) : 1 ≤ (norm z).length ∧ (norm z).length ≤ 65536 := by
  unfold norm; split
  · simp
  · simp; omega
theorem norm_bytes {z : List Int} (h : Bytes z) : Bytes (norm z) := by
  unfold norm; split
  · intro y hy; simp at hy; omega
  · intro y hy; exact h y (List.mem_of_mem_take hy)

/-- Where the transactions lie. -/
def places : Nat → List (List Int) → List (Nat × Nat)
  | _, [] => []
  | p, t :: ts => (p + 4, t.length) :: places (p + 4 + t.length) ts
theorem places_length : ∀ (p : Nat) (ts : List (List Int)), (places p ts).length = ts.length
  | _, [] => rfl
  | p, t :: ts => by simp [places, places_length]

theorem be4_enc (pre rest t : List Int) (ht : t.length < 4294967296) : be4 (pre ++ (enc1 t ++ rest)) pre.length = t.length := by
  unfold be4
  rw [List.drop_left, enc1, List.append_assoc, List.take_left' (bz_length 4 _), beZ_bz 4 _ (by simpa using ht)]
  simp

theorem segs_enc : ∀ (ts : List (List Int)) (k : Nat) (pre : List Int), (∀ t ∈ ts, 1 ≤ t.length ∧ t.length ≤ 65536) →
    segs k (pre ++ encs ts) pre.length = if ts.length ≤ k then some (places pre.length ts) else none
  | [], k, pre, _ => by
    rw [segs_end _ _ _ (by simp [encs])]
    simp [places]
  | t :: ts, k, pre, h => by
    have ht := h t (by simp)
    have e : pre ++ encs (t :: ts) = pre ++ (enc1 t ++ encs ts) := by simp [encs]
    have hl : (pre ++ (enc1 t ++ encs ts)).length = pre.length + (4 + t.length) + (encs ts).length := by
      simp [enc1, bz_length]; omega
    have hb := be4_enc pre (encs ts) t (by omega)
    rw [e]
    cases k with
    | zero =>
      rw [segs_zero _ _ (by omega)]
      simp
    | succ k =>
      rw [segs_step k _ _ (by omega) (by rw [hb]; omega) (by rw [hb]; omega), hb]
      have e2 : pre ++ (enc1 t ++ encs ts) = (pre ++ enc1 t) ++ encs ts := by simp
      have e3 : pre.length + 4 + t.length = (pre ++ enc1 t).length := by simp [enc1, bz_length]; omega
      rw [e2, e3, segs_enc ts k (pre ++ enc1 t) (fun x hx => h x (by simp [hx]))]
      simp only [List.length_cons, Nat.add_le_add_iff_right]
      split
      · simp only [places, Option.map_some, ← e3]
      · rfl

theorem places_get : ∀ (ts : List (List Int)) (p i : Nat) (t : List Int), ts[i]? = some t → ∃ s, (places p ts)[i]? = some (s, t.length) ∧ ∀ pre : List Int, pre.length = p → ∀ rest, (((pre ++ (encs ts ++ rest)).drop s).take t.length) = t ∧ s + t.length ≤ (pre ++ (encs ts ++ rest)).length
  | [], p, i, t, h => by simp at h
  | u :: ts, p, 0, t, h => by
    simp at h
    subst h
    refine ⟨p + 4, by simp [places], fun pre hp rest => ?_⟩
    have e : pre ++ (encs (u :: ts) ++ rest) = (pre ++ bz 4 u.length) ++ (u ++ (encs ts ++ rest)) := by simp [encs, enc1]
    rw [e]
    have hl : (pre ++ bz 4 u.length).length = p + 4 := by simp [bz_length, hp]
    rw [← hl, List.drop_left, List.take_left]
    exact ⟨rfl, by simp only [List.length_append]; omega⟩
  | u :: ts, p, i + 1, t, h => by
    obtain ⟨s, h1, h2⟩ := places_get ts (p + 4 + u.length) i t (by simpa using h)
    refine ⟨s, by simpa [places] using h1, fun pre hp rest => ?_⟩
    have e : pre ++ (encs (u :: ts) ++ rest) = (pre ++ enc1 u) ++ (encs ts ++ rest) := by simp [encs]
    rw [e]
    exact h2 (pre ++ enc1 u) (by simp [enc1, bz_length, hp]; omega) rest
end Go.Proofs.YbulkcxpqFmt
