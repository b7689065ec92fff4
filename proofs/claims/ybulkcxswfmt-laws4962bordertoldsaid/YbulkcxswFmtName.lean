import Derived.Test.YbulkcxswFmtRows
import Derived.WalkKit
import Derived.WalkSpells
import Derived.WalkLawsBesides
import Derived.Deep.OwnRows
import Derived.Laws.IdiomStrings
namespace Go.Proofs.YbulkcxswFmt
open Go.RowKit Go.Deep

/-! ### The name of id i, as the law's helper makes it -/
def nmL (i : Nat) : List UInt8 := [82, UInt8.ofNat (97 + i / 26), UInt8.ofNat (97 + i % 26)]
def nm (i : Nat) : ByteArray := ⟨(nmL i).toArray⟩

theorem nmL_lt {i j : Nat} (hj : j < 676) (h : i < j) : nmL i < nmL j := by
  have e1 : (UInt8.ofNat (97 + i / 26)).toNat = 97 + i / 26 := by rw [UInt8.toNat_ofNat']; omega
  have e2 : (UInt8.ofNat (97 + j / 26)).toNat = 97 + j / 26 := by rw [UInt8.toNat_ofNat']; omega
  have e3 : (UInt8.ofNat (97 + i % 26)).toNat = 97 + i % 26 := by rw [UInt8.toNat_ofNat']; omega
  have e4 : (UInt8.ofNat (97 + j % 26)).toNat = 97 + j % 26 := by rw [UInt8.toNat_ofNat']; omega
  unfold nmL
  rw [List.cons_lt_cons_iff]
  right
  refine ⟨rfl, ?_⟩
  rw [List.cons_lt_cons_iff]
  rcases Nat.lt_or_ge (i / 26) (j / 26) with h1 | h1
  · left
    rw [UInt8.lt_iff_toNat_lt, e1, e2]
    omega
  · have h2 : i / 26 = j / 26 := by omega
    right
    refine ⟨by rw [h2], ?_⟩
    rw [List.cons_lt_cons_iff]
    left
    rw [UInt8.lt_iff_toNat_lt, e3, e4]
    omega
theorem nmL_inj {i j : Nat} (hi : i < 676) (hj : j < 676) (h : nmL i = nmL j) : i = j := by
  rcases Nat.lt_trichotomy i j with h1 | h1 | h1
  · exact absurd (nmL_lt hj h1) (by rw [h]; exact List.lt_irrefl _)
  · exact h1
  · exact absurd (nmL_lt hi h1) (by rw [h]; exact List.lt_irrefl _)
theorem nm_inj {i j : Nat} (hi : i < 676) (hj : j < 676) (h : nm i = nm j) : i = j := by
  refine nmL_inj hi hj ?_
  unfold nm at h
  have h1 : (nmL i).toArray = (nmL j).toArray := by
    injection h
  simpa using h1
theorem nm_ne_empty (i : Nat) : nm i ≠ ⟨#[]⟩ := by
  intro h
  unfold nm nmL at h
  injection h with h1
  simp at h1

theorem name_conv (i : Nat) (w : World) (h : i < 676) :
    (convert 23 9 (.slice (some ⟨w.heap.size, 0, none⟩) 3 3)).run Ybaf.prog (w.alloc (.cells #[.int .u8 82, .int .u8 (97 + (i : Int) / 26), .int .u8 (97 + (i : Int) % 26)] 5)) =
      .ok (.string (nm i)) (w.alloc (.cells #[.int .u8 82, .int .u8 (97 + (i : Int) / 26), .int .u8 (97 + (i : Int) % 26)] 5)) := by
  refine run_convert_bytes_back (P := Ybaf.prog) _ 23 9 5 ⟨w.heap.size, 0, none⟩ 3 (nmL i) Ybaf.underlying23 Ybaf.underlying5 Ybaf.underlying9 (fun j hj => ?_)
  have e1 : ((UInt8.ofNat (97 + i / 26)).toNat : Int) = 97 + (i : Int) / 26 := by rw [UInt8.toNat_ofNat']; omega
  have e3 : ((UInt8.ofNat (97 + i % 26)).toNat : Int) = 97 + (i : Int) % 26 := by rw [UInt8.toNat_ofNat']; omega
  have hj3 : j < 3 := hj
  rcases (show j = 0 ∨ j = 1 ∨ j = 2 by omega) with rfl | rfl | rfl
  · simp [nmL, Addr.add, go_sem]
  · simp only [nmL, List.getElem_cons_succ, List.getElem_cons_zero, e1]
    simp [Addr.add, go_sem]
  · simp only [nmL, List.getElem_cons_succ, List.getElem_cons_zero, e3]
    simp [Addr.add, go_sem]

set_option maxRecDepth 100000 in
theorem name_any (i : Nat) (w : World) (h : i < 676) :
    Calls Ybaf.prog 4 #[.int .i64 i] w fun e w' => e = .returned (.string (nm i)) ∧ Below w.heap.size w w' := by
  have hcv := name_conv i w h
  go_enter Ybaf.func4, Ybaf.ntmps4
  go_wp2_with fail
  go_ret
  exact ⟨rfl, (Below.refl _ w).alloc (Nat.le_refl _) _⟩
end Go.Proofs.YbulkcxswFmt
