import Derived.Test.YbulkcxswFmtClos
import Derived.Deep.AppendLies
namespace Go.Proofs.YbulkcxswFmt
open Go Go.RowKit Go.Deep

/-! ### Where the order is stuck: somebody is left, and waits for somebody who is left -/
theorem some_left {n : Nat} {pl : List Nat} (h1 : pl.Nodup) (h2 : ∀ x ∈ pl, x < n) (h3 : pl.length < n) : ¬ ∀ j, j < n → j ∈ pl := fun h => by
  have := (seen_all h1 h2 h).length_eq
  simp at this
  omega
theorem stuck_min {deps : Nat → List Nat} {n : Nat} {pl : List Nat} (hi : nextFree deps n pl = none) {i : Nat} (hin : i < n) (hip : i ∉ pl) : ∃ d, minW n pl (deps i) = some d ∧ d < n ∧ d ∉ pl := by
  cases hm : minW n pl (deps i) with
  | none =>
    obtain ⟨d, hd, hdn, hdp⟩ := stuck_waits hi hin hip
    rcases minW_none.1 hm d hd with h | h
    · omega
    · exact absurd h hdp
  | some d => exact ⟨d, rfl, (minW_some hm).1, (minW_some hm).2.1⟩
def atMap (path : List Nat) : SM := named path fun x => .int .i64 (path.idxOf x : Int)
theorem atMap_step {path : List Nat} {c : Nat} (hc : c ∉ path) (hl : ∀ x ∈ path, x < 676) (hc6 : c < 676) : setM (atMap path) (nm c) (.int .i64 (path.length : Int)) = atMap (path ++ [c]) := by
  have hg : getM (atMap path) (nm c) = none := by
    unfold atMap
    rw [getM_named _ hc6 path hl, if_neg hc]
  rw [setM_new hg]
  unfold atMap named
  rw [List.map_append]
  congr 1
  · refine List.map_congr_left (fun x hx => ?_)
    simp [List.idxOf_append, hx]
  · simp [List.idxOf_append, hc]

/-- What the closure's contract asks, for every id. -/
structure Setting (w : World) (bd md bp mp n : Nat) (p pl : List Nat) (deps : Nat → List Nat) (ws : Nat → Value) : Prop where
  cd : w.cell? ⟨bd, 0, none⟩ = some (.map (some md))
  cp : w.cell? ⟨bp, 0, none⟩ = some (.map (some mp))
  hmd : StrMap w md (named p ws)
  hmp : StrMap w mp (named pl fun _ => .bool true)
  perm : p.Perm (List.range n)
  low : ∀ x ∈ pl, x < n
  hn : n ≤ 256
  names : ∀ i, i < n → IsNames w (ws i) (deps i)
  dlow : ∀ i, i < n → ∀ d ∈ deps i, d < 676
  dlen : ∀ i, i < n → (deps i).length ≤ 256

theorem Setting.clos {w : World} {bd md bp mp n : Nat} {p pl : List Nat} {deps : Nat → List Nat} {ws : Nat → Value} (h : Setting w bd md bp mp n p pl deps ws) {i : Nat} (hi : i < n) :
    Calls Ybaf.prog 12 #[.string (nm i), .pointer (some ⟨bd, 0, none⟩), .pointer (some ⟨bp, 0, none⟩)] w fun e w' => e = .returned (.string (nmO (minW n pl (deps i)))) ∧ w' = w :=
  clos_any bd md bp mp n i p pl deps ws w h.cd h.cp h.hmd h.hmp h.perm h.low h.hn hi (h.names i hi) (h.dlow i hi) (h.dlen i hi)
theorem Setting.below {w w' : World} {bd md bp mp n : Nat} {p pl : List Nat} {deps : Nat → List Nat} {ws : Nat → Value} (h : Setting w bd md bp mp n p pl deps ws) (hb : Below w.heap.size w w') : Setting w' bd md bp mp n p pl deps ws where
  cd := (hb.cell (World.block_lt_of_cell? w _ h.cd)).trans h.cd
  cp := (hb.cell (World.block_lt_of_cell? w _ h.cp)).trans h.cp
  hmd := h.hmd.of_block (hb.block _ h.hmd.lt)
  hmp := h.hmp.of_block (hb.block _ h.hmp.lt)
  perm := h.perm
  low := h.low
  hn := h.hn
  names := fun i hi => by
    obtain ⟨ao, cap, hv, hc⟩ := h.names i hi
    refine ⟨ao, cap, hv, fun hne => ?_⟩
    obtain ⟨b, off, ha, hlt, hcs⟩ := hc hne
    exact ⟨b, off, ha, Nat.lt_of_lt_of_le hlt hb.size, fun j hj => (hb.cell hlt).trans (hcs j hj)⟩
  dlow := h.dlow
  dlen := h.dlen
end Go.Proofs.YbulkcxswFmt
