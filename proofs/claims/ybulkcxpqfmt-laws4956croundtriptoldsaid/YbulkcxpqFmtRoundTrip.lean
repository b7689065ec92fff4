import Derived.Test.YbulkcxpqFmtRtW
import Derived.Test.YbulkcxpqFmtTie
import Derived.Test.YbulkcxpqFmtCards
import Derived.ProofKit
import Derived.Stop.JoinedAt
import Derived.Stop.JoinedTold
import Derived.SevenTiedAt
import Derived.Deep.Matrix
import Derived.ChangeOld
namespace Go.Proofs.YbulkcxpqFmt
open Go.ChangeShapes Go.WideShapes Go.ChangeAt Go.RowKit
open Go.Extern.Stop Go.Stop Go.Extern

theorem own : ownKnob Ybaf.prog.godebug = none := by kernel_rfl
theorem laidOut : laidOutB Ybaf.pinned.checked.prog = true := by kernel_rfl
theorem stops : Ybaf.pinned.checked.prog.stops = ["fmt.errorf"] := by kernel_rfl
theorem stopKnobs : Ybaf.pinned.checked.prog.stopKnobs = [] := by kernel_rfl
theorem quiet (os : Os) : Stop.quiet Ybaf.pinned.checked.prog os := by
  intro k hk
  rw [stopKnobs] at hk
  cases hk

/-- Three variables that hold pointers to three blocks in a row. -/
def laid3 (wh : World) (low : Nat) : World :=
  { wh with heap := ((wh.heap.modify 1 fun
      | .cells _ t frozen => .cells #[.iface 69 (.pointer (some ⟨low, 0, none⟩))] t frozen
      | o => o).modify 2 fun
      | .cells _ t frozen => .cells #[.iface 69 (.pointer (some ⟨low + 1, 0, none⟩))] t frozen
      | o => o).modify 3 fun
      | .cells _ t frozen => .cells #[.iface 69 (.pointer (some ⟨low + 2, 0, none⟩))] t frozen
      | o => o }
theorem laid_met (os : Os) (args : Array Value) : laidMet Ybaf.prog Rows.lawS4956CRoundTripRow.laid ((laid3 (World.holding Ybaf.prog os ⟨#[.cells #[.string ⟨#[115, 104, 111, 114, 116, 32, 98, 117, 102, 102, 101, 114]⟩] 71, .cells #[.string ⟨#[69, 79, 70]⟩] 71, .cells #[.string ⟨#[117, 110, 101, 120, 112, 101, 99, 116, 101, 100, 32, 69, 79, 70]⟩] 71], #[], []⟩) (World.holding Ybaf.prog default ⟨#[], #[], []⟩).heap.size).forCall (fun _ _ => 0) ⟨#[], args, []⟩).memory :=
  laidMet_of_run (ps := [.cell 1 0, .cell ((World.holding Ybaf.prog default ⟨#[], #[], []⟩).heap.size) 0, .cell 2 0, .cell ((World.holding Ybaf.prog default ⟨#[], #[], []⟩).heap.size + 1) 0, .cell 3 0, .cell ((World.holding Ybaf.prog default ⟨#[], #[], []⟩).heap.size + 2) 0]) 8 (by kernel_rfl) (by kernel_rfl) (by kernel_rfl)

theorem cells24 : Ybaf.prog.cellsOf 24 = 1 := by kernel_rfl
theorem cells5 : Ybaf.prog.cellsOf 5 = 1 := by kernel_rfl

theorem bytes_of_wf {zs : List Int} (h : ∀ z ∈ zs, (Lit.int .u8 z).wf = true) : Bytes zs := by
  intro z hz
  have := h z hz
  simp [Lit.wf, IntKind.min, IntKind.max, IntKind.signed, IntKind.bits] at this
  omega
theorem src_of_cells {w : World} {a : Addr} {n : Nat} {zs : List Int} (hn : 0 < n) (hz : n ≤ zs.length) (h : ∀ c, c < n → w.cell? (a.add c) = some (.int .u8 (zs.getD c 0))) :
    ∃ bb oo, a = ⟨bb, oo, none⟩ ∧ bb < w.heap.size ∧ Src w bb oo (zs.take n) := by
  obtain ⟨bb, oo, spot⟩ := a
  have hspot : spot = none := by simpa [Addr.add] using World.cell?_spot (h 0 hn)
  subst hspot
  refine ⟨bb, oo, rfl, ?_, fun j hj => ?_⟩
  · have := World.block_lt_of_cell? w _ (h 0 hn)
    simpa [Addr.add] using this
  · have hj' : j < n := by simp at hj; omega
    have := h j hj'
    rw [add_plain] at this
    rw [this, List.getD, List.getD, List.getElem?_take_of_lt hj']
theorem args_open (F : Interp) (round : Nat) (hround : round < 18446744073709551616) (a : Addr) (len cap : Nat) (A : Nat → Option Addr) (L C : Nat → Nat) (Z : Nat → List Int) (W : World) (hF : F.answers W.tape) (hpos : 0 < len) (hsmall : len ≤ 2048) (hl : len ≤ cap)
    (hr : ∀ r, r < cap → W.cell? (a.add r) = some (.slice (A r) (L r) (C r)) ∧ L r ≤ C r ∧ C r ≤ maxLen ∧ (Z r).length = C r ∧ (∀ n ∈ Z r, (Lit.int .u8 n).wf = true) ∧ (A r = none → C r = 0) ∧
        ∀ a', A r = some a' → 0 ≤ a'.block ∧ ∀ c, c < C r → W.cell? (a'.add c) = some (.int .u8 ((Z r).getD c 0))) :
    Calls Ybaf.prog 3 #[.int .u64 round, .slice (some a) len cap] W fun e w' => e = .returned (.bool true) ∧ Below W.heap.size W w' := by
  obtain ⟨b, off, spot⟩ := a
  have hspot : spot = none := by simpa [Addr.add] using World.cell?_spot (hr 0 (by omega)).1
  subst hspot
  have hb : b < W.heap.size := by
    have := World.block_lt_of_cell? W _ (hr 0 (by omega)).1
    simpa [Addr.add] using this
  refine rt_any F round b off len cap A C (fun r => if r < len then (Z r).take (L r) else []) W hF hround hsmall hb (fun r => ?_) (fun r hlt => ?_)
  · show Bytes (if r < len then (Z r).take (L r) else [])
    split
    · rename_i hlt
      have := bytes_of_wf (hr r (by omega)).2.2.2.2.1
      exact fun z hz => this z (List.mem_of_mem_take hz)
    · intro z hz; cases hz
  · obtain ⟨c1, c2, c3, c4, c5, c6, c7⟩ := hr r (by omega)
    have e : (if r < len then (Z r).take (L r) else []) = (Z r).take (L r) := if_pos hlt
    have el : ((Z r).take (L r)).length = L r := by simp; omega
    unfold ArgAt
    simp only [e, el]
    rw [add_plain] at c1
    refine ⟨c1, c2, c3, fun h0 => ?_⟩
    cases hA : A r with
    | none => have := c6 hA; omega
    | some a' =>
      obtain ⟨bb, oo, rfl, hbb, hsrc⟩ := src_of_cells (n := L r) h0 (by omega) (fun c hc => (c7 a' hA).2 c (by omega))
      exact ⟨bb, oo, rfl, hbb, hsrc⟩

set_option maxRecDepth 100000 in
set_option maxHeartbeats 1600000 in
theorem rt_lifted (os : Os) (started : os.Started) (H : Type) (enc : TypeId × Value → H) :
    ReturnsInTold none {} Ybaf.checked os 3 .any Input.okWide ((OpenSpec.ofChange Rows.lawS4956CRoundTripSpec).preRow enc Ybaf.prog Ybaf.f3 [] false Rows.lawS4956CRoundTripRow.laid) (fun F => ((OpenSpec.ofChange Rows.lawS4956CRoundTripSpec).at F).post enc Ybaf.prog Ybaf.f3 false true false false) (aloneAtReturn Ybaf.prog) nothingAlways := by
  refine returnsInTold_of_row (C := Ybaf.checked) (s := OpenSpec.ofChange Rows.lawS4956CRoundTripSpec) (by kernel_rfl) own started (by kernel_rfl) Ybaf.func3
    (OpenSpec.witness_stopped_at (enc := enc) (C := Ybaf.checked) false (laid3 (World.holding Ybaf.prog os ⟨#[.cells #[.string ⟨#[115, 104, 111, 114, 116, 32, 98, 117, 102, 102, 101, 114]⟩] 71, .cells #[.string ⟨#[69, 79, 70]⟩] 71, .cells #[.string ⟨#[117, 110, 101, 120, 112, 101, 99, 116, 101, 100, 32, 69, 79, 70]⟩] 71], #[], []⟩) (World.holding Ybaf.prog default ⟨#[], #[], []⟩).heap.size) #[.int .u64 0, .slice none 0 0] rfl (by kernel_rfl) (by kernel_rfl) (by kernel_rfl)
      (OpenSpec.preRow_of_B rfl 8 (by kernel_rfl) (by kernel_rfl) (laid_met os _))) ?_
  intro F W base0 args ds gs before _ hF hval0 hW _ _ _ hL _
  have hval : ∀ (j : Nat) t v, Ybaf.f3.params[j]? = some t → args[j]? = some v → Value.okWide Ybaf.prog W .any base0 t v := hval0
  have hW' := hW
  obtain ⟨p, q, hA0, hV, rfl, hfz, hnd⟩ := hW
  have hA : DataW.TrodAll enc Ybaf.prog W 0 (fun _ => true) true Ybaf.f3.params.toList args.toList ds p := hA0
  rw [Ybaf.params3] at hA hval
  obtain ⟨v0, v1, d0, d1, p0, p1, rfl, rfl, rfl, h0, h1⟩ := trodAll_two hA
  obtain ⟨rfl, rfl⟩ := trodVars_none hV
  obtain ⟨x, rfl, rfl, rfl, wx⟩ := open_int Ybaf.underlying22 (hval 0 22 v0 rfl rfl) h0
  obtain ⟨a1, len1, cap1, rfl⟩ := okWide_slice Ybaf.underlying23 (hval 1 23 v1 rfl rfl)
  have k1 := h1
  have lt1 : ∀ y ∈ p1, y.block < W.heap.size := by obtain ⟨m, hm⟩ := k1; exact DataW.trod_lt m _ _ _ hm
  obtain ⟨round, hround, hxr⟩ : ∃ round : Nat, round < 18446744073709551616 ∧ x = (round : Int) := by
    have := wx
    simp [Lit.wf, IntKind.min, IntKind.max, IntKind.signed, IntKind.bits] at this
    exact ⟨x.toNat, by omega, by omega⟩
  have main : Calls Ybaf.prog 3 #[.int .u64 x, .slice a1 len1 cap1] W fun e w' => e = .returned (.bool true) ∧ Below W.heap.size W w' := by
    subst hxr
    obtain ⟨fuel, hf⟩ := h1
    rcases Nat.lt_or_ge 2048 len1 with hbig | hsmall
    · exact big round a1 len1 cap1 W hbig
    · rcases Nat.eq_zero_or_pos len1 with hz | hpos
      · subst hz
        exact rt_nil F.told round a1 cap1 W hF hround
      · rcases Go.Deep.open_int_rows Ybaf.underlying23 Ybaf.underlying24 Ybaf.underlying5 cells24 cells5 hf with ⟨hcs, _⟩ | ⟨a, len, cap, A, L, C, Z, hcs, _, hl, hm, _, hr⟩
        · simp [Value.cells] at hcs
          omega
        · simp [Value.cells] at hcs
          obtain ⟨rfl, rfl, rfl⟩ := hcs
          exact args_open F.told round hround a len1 cap1 A L C Z W hF hpos hsmall hl hr
  clear hA0 hval0
  refine main.mono fun e W' ⟨he, bel⟩ => ?_
  subst he
  exact ⟨_, rfl, _, _, _, [], _, [], hW', trodAll_mk1 (shut_bool Ybaf.underlying4 _), trodAll_mk2 (shut_int Ybaf.underlying22 wx) (Below.trod laidOut (by kernel_rfl) (of_decide_eq_true (by kernel_rfl)) k1 bel lt1), rfl, bel.frame _, fun h => by cases h⟩
theorem roundTrip : Rows.LawS4956CRoundTripToldSaid :=
  Claim7.holds_of_told_tied_any_at .later 3 Ybaf.f3 "fmt.errorf" [] [] _ _ _ _ _ (by kernel_rfl) rfl rfl rfl laidOut (by kernel_rfl) rfl ⟨rfl, rfl, rfl, rfl, rfl, rfl, rfl⟩ rfl rfl (by kernel_rfl) (by kernel_rfl) Ybaf.func3 (by kernel_rfl)
    (of_decide_eq_true (by kernel_rfl)) (by unfold Func.isWrapper; first | (rw [if_pos (by decide +kernel)]; kernel_rfl) | (rw [if_neg (by decide +kernel)]; exact ⟨rfl, rfl⟩)) stops.symm rfl stopKnobs.symm (by kernel_rfl)
    (by kernel_rfl) (by kernel_rfl) (by kernel_rfl) (by kernel_rfl) (by kernel_rfl) (by kernel_rfl) (by kernel_rfl) (by kernel_rfl) (by kernel_rfl) rfl (by kernel_rfl) rfl rfl
    rfl rfl
    rfl (by kernel_rfl) (by kernel_rfl) (by kernel_rfl) (by decide) (by kernel_rfl) lawS4956CRoundTrip_row_tie
    (OpenClaim.moreEntering_of (by kernel_rfl) (by kernel_rfl) (by kernel_rfl) (by kernel_rfl) (by kernel_rfl) (by kernel_rfl) (by kernel_rfl) (by kernel_rfl) (by kernel_rfl) (by kernel_rfl))
    ⟨_, WideRow.started_initial, quiet _⟩
    (fun os started _ H enc _ => rt_lifted os started H enc)
end Go.Proofs.YbulkcxpqFmt
