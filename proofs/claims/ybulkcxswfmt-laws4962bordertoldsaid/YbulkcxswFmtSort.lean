import Derived.Test.YbulkcxswFmtKept
import Derived.Test.YbulkcxswFmtShelf
namespace Go.Proofs.YbulkcxswFmt
open Go Go.RowKit Go.Deep

def sortS (ss : List (List UInt8)) : List (List UInt8) := ss.mergeSort fun x y => decide (x ≤ y)
theorem sortS_length (ss : List (List UInt8)) : (sortS ss).length = ss.length := List.length_mergeSort _

theorem sort_row (b cap c : Nat) (f : Nat → Value) (ss : List (List UInt8)) (w : World) (hr : w.rowIs b 9 c f) (hl : ss.length ≤ c) (hc : c ≤ 1000000) (hss : ∀ j (h : j < ss.length), f j = .string ⟨(ss[j]'h).toArray⟩) :
    Calls Ybaf.prog 11 #[.slice (some ⟨b, 0, none⟩) ss.length cap] w fun e w' => e = .returned (.tuple #[]) ∧
      w'.rowIs b 9 c (fun j => if j < ss.length then .string ⟨((sortS ss).getD j []).toArray⟩ else f j) ∧ Kept [b] w w' := by
  refine (Ybaf.sort_Strings b 0 cap ss w (fun j hj => ?_) hr.lt (by omega)).mono ?_
  · have hj' : j < ss.length := by simpa using hj
    rw [Nat.zero_add]
    refine ⟨(hr.cell (by omega)).trans ?_, hr.frozen j⟩
    rw [hss j hj', getElem!_pos ss.toArray j hj]
    simp [encStr]
  · rintro e w' ⟨rfl, n, os, rfl⟩
    obtain ⟨cs, hb, hn, hcs⟩ := hr
    have hsz : b < w.heap.size := (Array.getElem?_eq_some_iff.1 hb).1
    have hlen : (sortS ss).length = ss.length := sortS_length ss
    have hblk : ∀ k, k < w.heap.size → (Sort.grow (Sort.putRow encStr (Sort.ahead w n) b 0 (sortS ss).toArray) os).heap[k]? = (w.heap.modify b (Sort.onCells (Sort.putCells encStr 0 (sortS ss).toArray)))[k]? := by
      intro k hk
      show ((w.heap.modify b _) ++ os)[k]? = _
      rw [Array.getElem?_append_left (by simpa using hk)]
    refine ⟨rfl, ?_, ⟨rfl, rfl, rfl, ?_, ?_⟩⟩
    · refine ⟨Sort.putCells encStr 0 (sortS ss).toArray cs, ?_, ?_, ?_⟩
      · refine (hblk b hsz).trans ?_
        rw [Array.getElem?_modify, if_pos rfl, hb]
        rfl
      · simp [Sort.putCells, hn]
      · intro i hi
        have h1 := hcs i hi
        simp only [Sort.putCells, Array.getElem?_mapIdx, h1, Option.map_some, Nat.zero_le, true_and, Nat.zero_add, List.size_toArray, hlen, Nat.sub_zero]
        by_cases h2 : i < ss.length
        · rw [if_pos h2, if_pos h2, getElem!_pos (sortS ss).toArray i (by simpa [hlen] using h2)]
          simp [encStr, List.getElem?_eq_getElem (show i < (sortS ss).length by omega)]
        · rw [if_neg h2, if_neg h2]
    · show w.heap.size ≤ ((w.heap.modify b _) ++ os).size
      simp
    · intro k hk hS
      refine (hblk k hk).trans ?_
      rw [Array.getElem?_modify, if_neg (by simpa using fun h => hS (by simp [h]))]
end Go.Proofs.YbulkcxswFmt
