import Derived.Test.YbulkcxswFmtBuilt
import Derived.Deep.Slices
import Derived.ChangeSame
import Derived.ChangeArms
namespace Go.Proofs.YbulkcxswFmt
open Go Go.ChangeShapes Go.WideShapes Go.RowKit Go.Deep

theorem cells25 : Ybaf.prog.cellsOf 25 = 4 := by kernel_rfl
theorem cells5 : Ybaf.prog.cellsOf 5 = 1 := by kernel_rfl
theorem cells4 : Ybaf.prog.cellsOf 4 = 1 := by kernel_rfl
theorem cells9 : Ybaf.prog.cellsOf 9 = 1 := by kernel_rfl
theorem cells23 : Ybaf.prog.cellsOf 23 = 1 := by kernel_rfl

/-- One element of the argument. -/
def ElemAt (W : World) (a : Addr) (i : Nat) (q : Bool × Option Addr × Nat × Nat × (Nat → Nat) × ByteArray × ByteArray) : Prop :=
  W.cell? (a.add (i * 4)) = some (.bool q.1) ∧ W.cell? (a.add (i * 4 + 1)) = some (.slice q.2.1 q.2.2.1 q.2.2.2.1) ∧ W.cell? (a.add (i * 4 + 2)) = some (.string q.2.2.2.2.2.1) ∧ W.cell? (a.add (i * 4 + 3)) = some (.string q.2.2.2.2.2.2) ∧
  (0 < q.2.2.1 → ∃ wb wo, q.2.1 = some ⟨wb, wo, none⟩ ∧ wb < W.heap.size ∧ ∀ j, j < q.2.2.1 → W.cell? ⟨wb, wo + j, none⟩ = some (.int .u8 (q.2.2.2.2.1 j)) ∧ q.2.2.2.2.1 j ≤ 255)

theorem waits_open {H : Type} {enc : TypeId × Value → H} {W : World} {base fuel : Nat} {sp : Nat → Bool} {held : Bool} {v : Value} {x : DataW H × List MemPlace} (h : DataW.trod enc Ybaf.prog W base sp held fuel 23 [v] = some x) :
    ∃ (ao : Option Addr) (l c : Nat) (z : Nat → Nat), v = .slice ao l c ∧ (0 < l → ∃ wb wo, ao = some ⟨wb, wo, none⟩ ∧ wb < W.heap.size ∧ ∀ j, j < l → W.cell? ⟨wb, wo + j, none⟩ = some (.int .u8 (z j)) ∧ z j ≤ 255) := by
  rcases open_slice1 Ybaf.underlying23 cells5 h with ⟨hcs, _⟩ | ⟨a, len, cap, m, n, V, D, Pl, hcs, _, hl, hm, hmm, _, hx⟩
  · have hv : v = .slice none 0 0 := by simpa using hcs
    exact ⟨none, 0, 0, fun _ => 0, hv, fun h => by omega⟩
  · have hv : v = .slice (some a) len cap := by simpa using hcs
    have hlm : len ≤ m := by rw [hmm]; split <;> omega
    have each : ∀ j, j < len → ∃ z : Nat, W.cell? (a.add j) = some (.int .u8 z) ∧ z ≤ 255 := fun j hj => by
      obtain ⟨h1, h2⟩ := hx j (by omega)
      obtain ⟨z, hz, _, hwf⟩ := DataW.trod_int Ybaf.underlying5 h2
      have hz' : V j = .int .u8 z := by simpa using hz
      simp [Lit.wf, IntKind.min, IntKind.max, IntKind.signed, IntKind.bits] at hwf
      refine ⟨z.toNat, ?_, by omega⟩
      rw [h1, hz', Int.toNat_of_nonneg (by omega)]
    obtain ⟨z, hz⟩ := choose_lt each
    refine ⟨some a, len, cap, z, hv, fun hpos => ?_⟩
    obtain ⟨wb, wo, spot⟩ := a
    have hspot : spot = none := by simpa [Addr.add] using World.cell?_spot (hz 0 hpos).1
    subst hspot
    refine ⟨wb, wo, rfl, ?_, fun j hj => ?_⟩
    · have := World.block_lt_of_cell? W _ (hz 0 hpos).1
      simpa [Addr.add] using this
    · have := hz j hj
      rw [add_plain] at this
      exact this
set_option maxRecDepth 100000 in
theorem elem_open {H : Type} {enc : TypeId × Value → H} {W : World} {base fuel : Nat} {sp : Nat → Bool} {held : Bool} {a : Addr} {i : Nat} {cs : List Value} {x : DataW H × List MemPlace} (hc : W.cells? base (a.add (i * 4)) 4 = some cs) (h : DataW.trod enc Ybaf.prog W base sp held fuel 25 cs = some x) : ∃ q, ElemAt W a i q := by
  obtain ⟨_, hlen, hcell⟩ := World.cells?_some hc
  obtain ⟨xs, k, hk, hxy, _, hxl, hf⟩ := DataW.trod_struct Ybaf.underlying25 h
  match xs, hxl, cs, hlen with
  | [y0, y1, y2, y3], _, [v0, v1, v2, v3], _ =>
    have g0 := hf 0 _ rfl
    have g1 := hf 1 _ rfl
    have g2 := hf 2 _ rfl
    have g3 := hf 3 _ rfl
    simp [cells4, cells9, cells23] at g0 g1 g2 g3
    have e0 := hcell 0 (by omega)
    have e1 := hcell 1 (by omega)
    have e2 := hcell 2 (by omega)
    have e3 := hcell 3 (by omega)
    rw [add_add] at e0 e1 e2 e3
    obtain ⟨b0, hb0, _⟩ := DataW.trod_bool Ybaf.underlying4 g0
    obtain ⟨ao, l, c, z, hv1, hz⟩ := waits_open g1
    obtain ⟨s2, hs2, _⟩ := DataW.trod_string Ybaf.underlying9 g2
    obtain ⟨s3, hs3, _⟩ := DataW.trod_string Ybaf.underlying9 g3
    have hb0' : v0 = .bool b0 := by simpa using hb0
    have hs2' : v2 = .string s2 := by simpa using hs2
    have hs3' : v3 = .string s3 := by simpa using hs3
    subst hb0' hs2' hs3' hv1
    exact ⟨(b0, ao, l, c, z, s2, s3), by simpa using e0, by simpa using e1, by simpa using e2, by simpa using e3, hz⟩
end Go.Proofs.YbulkcxswFmt
