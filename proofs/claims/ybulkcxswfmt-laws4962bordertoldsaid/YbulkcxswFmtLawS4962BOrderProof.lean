import Derived.Test.YbulkcxswFmtLawA
import Derived.Test.YbulkcxswFmtOpen
import Derived.Test.YbulkcxswFmtTie
import Derived.Test.YbulkcxswFmtCards
import Derived.ProofKit
import Derived.Stop.JoinedAt
import Derived.Stop.JoinedTold
import Derived.Stop.LaidErr
import Derived.SevenTiedAt
import Derived.WalkSmall
import Derived.ChangeOld
namespace Go.Proofs.YbulkcxswFmt
open Go.ChangeShapes Go.WideShapes Go.ChangeAt Go.RowKit
open Go.Extern.Stop Go.Stop Go.Extern

theorem own : ownKnob Ybaf.prog.godebug = none := by kernel_rfl
theorem laidOut : laidOutB Ybaf.pinned.checked.prog = true := by kernel_rfl
theorem stops : Ybaf.pinned.checked.prog.stops = ["fmt.errorf"] := by kernel_rfl
theorem stopKnobs : Ybaf.pinned.checked.prog.stopKnobs = [] := by kernel_rfl
theorem quiet (os : Os) : Stop.quiet Ybaf.pinned.checked.prog os := by
  intro k hk
  rw [stopKnobs] at hk
  cases hk
def errN : String := Rows.lawS4962BOrderSpec.vars.getD 0 ""
theorem gO : Ybaf.prog.globalNamed errN = some 0 := by kernel_rfl
theorem gOType : (Ybaf.prog.globals[0]?).map (·.type) = some 42 := by kernel_rfl
theorem cells92 : Ybaf.prog.cellsOf 92 = 1 := by kernel_rfl
theorem row90 (u : TypeId) (h : Ybaf.prog.typeName? 3 u = some errT) : u = 90 :=
  typeName_ptr_named (nm := "errors.errorString") (by kernel_rfl) (by kernel_rfl) (by decide) u (h.trans (congrArg some (by kernel_rfl)))

/-- The variable holds a pointer to a block of its own. -/
def laid1 (wh : World) (low : Nat) : World :=
  { wh with heap := wh.heap.modify 0 fun
      | .cells _ t frozen => .cells #[.iface 90 (.pointer (some ⟨low, 0, none⟩))] t frozen
      | o => o }
theorem laid_met (os : Os) (args : Array Value) : laidMet Ybaf.prog Rows.lawS4962BOrderRow.laid ((laid1 (World.holding Ybaf.prog os ⟨#[.cells #[.string ⟨#[100, 101, 112, 101, 110, 100, 101, 110, 99, 121, 32, 99, 121, 99, 108, 101]⟩] 92], #[], []⟩) (World.holding Ybaf.prog default ⟨#[], #[], []⟩).heap.size).forCall (fun _ _ => 0) ⟨#[], args, []⟩).memory :=
  laidMet_of_run (ps := [.cell 0 0, .cell ((World.holding Ybaf.prog default ⟨#[], #[], []⟩).heap.size) 0]) 8 (by kernel_rfl) (by kernel_rfl) (by kernel_rfl)

theorem spec_open {W : World} {a : Addr} {len : Nat} (q : Nat → Bool × Option Addr × Nat × Nat × (Nat → Nat) × ByteArray × ByteArray) (hq : ∀ i, i < len → ElemAt W a i (q i)) :
    Spec W (some a) len (fun i => (q i).1) (fun i => (q i).2.1) (fun i => (q i).2.2.1) (fun i => (q i).2.2.2.1) (fun i => (q i).2.2.2.2.1) (fun i => (q i).2.2.2.2.2.1) (fun i => (q i).2.2.2.2.2.2) where
  at_ := fun hpos => by
    obtain ⟨b, off, spot⟩ := a
    have h0 := (hq 0 hpos).1
    have hspot : spot = none := by simpa [Addr.add] using World.cell?_spot h0
    subst hspot
    refine ⟨b, off, rfl, ?_, fun i hi => ?_⟩
    · have := World.block_lt_of_cell? W _ h0
      simpa [Addr.add] using this
    · obtain ⟨e0, e1, e2, e3, _⟩ := hq i hi
      rw [add_plain] at e0 e1 e2 e3
      exact ⟨e0, e1, e2, e3⟩
  waits := fun i hi hp => (hq i hi).2.2.2.2 hp
theorem spec_none (W : World) (ao : Option Addr) : Spec W ao 0 (fun _ => false) (fun _ => none) (fun _ => 0) (fun _ => 0) (fun _ _ => 0) (fun _ => ⟨#[]⟩) (fun _ => ⟨#[]⟩) :=
  ⟨fun h => by omega, fun i hi => by omega⟩

set_option maxRecDepth 100000 in
set_option maxHeartbeats 1600000 in
theorem lifted (os : Os) (started : os.Started) (H : Type) (enc : TypeId × Value → H) :
    ReturnsInTold none {} Ybaf.checked os 3 .any Input.okWide ((OpenSpec.ofChange Rows.lawS4962BOrderSpec).preRow enc Ybaf.prog Ybaf.f3 [] false Rows.lawS4962BOrderRow.laid) (fun F => ((OpenSpec.ofChange Rows.lawS4962BOrderSpec).at F).post enc Ybaf.prog Ybaf.f3 false true false false) (aloneAtReturn Ybaf.prog) nothingAlways := by
  refine returnsInTold_of_row (C := Ybaf.checked) (s := OpenSpec.ofChange Rows.lawS4962BOrderSpec) (by kernel_rfl) own started (by kernel_rfl) Ybaf.func3
    (OpenSpec.witness_stopped_at (enc := enc) (C := Ybaf.checked) false (laid1 (World.holding Ybaf.prog os ⟨#[.cells #[.string ⟨#[100, 101, 112, 101, 110, 100, 101, 110, 99, 121, 32, 99, 121, 99, 108, 101]⟩] 92], #[], []⟩) (World.holding Ybaf.prog default ⟨#[], #[], []⟩).heap.size) #[.slice none 0 0] rfl (by kernel_rfl) (by kernel_rfl) (by kernel_rfl)
      (OpenSpec.preRow_of_B rfl 8 (by kernel_rfl) (by kernel_rfl) (laid_met os _))) ?_
  intro F W base0 args ds gs before _ hF hval0 hW _ _ _ hL _
  have hval : ∀ (j : Nat) t v, Ybaf.f3.params[j]? = some t → args[j]? = some v → Value.okWide Ybaf.prog W .any base0 t v := hval0
  have hW' := hW
  obtain ⟨p, q, hA0, hV0, rfl, hfz, hnd⟩ := hW
  have hA : DataW.TrodAll enc Ybaf.prog W 0 (fun _ => true) true Ybaf.f3.params.toList args.toList ds p := hA0
  have hV : DataW.TrodVars enc Ybaf.prog W (fun _ => true) [errN] gs q := hV0
  rw [Ybaf.params3] at hA hval
  obtain ⟨v0, d0, rfl, rfl, h0⟩ := trodAll_one hA
  obtain ⟨a1, s1, hv1, hc1, hs1, hz1⟩ := laid_sentinel hL gO gOType Ybaf.underlying42 row90 Ybaf.underlying90 Ybaf.underlying92 rfl rfl Ybaf.underlying9 cells92 cells9
  obtain ⟨rfl, rfl⟩ := hV.unique (vars_read1 enc gO gOType Ybaf.underlying42 hv1 trivial _)
  obtain ⟨a0, len0, cap0, rfl⟩ := okWide_slice Ybaf.underlying22 (hval 0 22 v0 rfl rfl)
  have hg1 : W.cell? ⟨0, 0, none⟩ = some (.iface 90 (.pointer (some a1))) := by simpa using World.var?_cell gO hv1 0
  have h0lt : 0 < W.heap.size := World.block_lt_of_cell? W _ hg1
  have k0 := h0
  have lt0 : ∀ x ∈ p, x.block < W.heap.size := by obtain ⟨m, hm⟩ := k0; exact DataW.trod_lt m _ _ _ hm
  have main : Calls Ybaf.prog 3 #[.slice a0 len0 cap0] W fun e w' => e = .returned (.bool true) ∧ Below W.heap.size W w' := by
    obtain ⟨fuel, hf⟩ := h0
    rcases Nat.lt_or_ge 256 len0 with hbig | hsmall
    · exact law_big a0 len0 cap0 W hbig
    · rcases Nat.eq_zero_or_pos len0 with hz | hpos
      · subst hz
        exact lawA F.told a1 s1 a0 0 cap0 _ _ _ _ _ _ _ W hF ⟨hg1, hc1⟩ (spec_none W a0) hsmall
      · rcases Go.Deep.open_slice Ybaf.underlying22 hf with ⟨hcs, _⟩ | ⟨a, len, cap, m, n, D, Pl, hcs, _, hl, hm, hmm, _, hx⟩
        · simp [Value.cells] at hcs
          omega
        · simp [Value.cells] at hcs
          obtain ⟨rfl, rfl, rfl⟩ := hcs
          have hlm : len0 ≤ m := by rw [hmm]; split <;> omega
          have each : ∀ i, i < len0 → ∃ q, ElemAt W a i q := fun i hi => by
            obtain ⟨cs', h1, h2⟩ := hx i (by omega)
            rw [cells25] at h1
            exact elem_open h1 h2
          obtain ⟨q, hq⟩ := Go.Deep.choose_lt each
          exact lawA F.told a1 s1 (some a) len0 cap0 _ _ _ _ _ _ _ W hF ⟨hg1, hc1⟩ (spec_open q hq) hsmall
  clear hA0 hV0 hval0
  refine main.mono fun e W' ⟨he, bel⟩ => ?_
  subst he
  exact ⟨_, rfl, _, _, _, [], _, _, hW', trodAll_mk1 (shut_bool Ybaf.underlying4 _), trodAll_mk1 (Below.trod laidOut (by kernel_rfl) (of_decide_eq_true (by kernel_rfl)) k0 bel lt0), vars_read1 enc gO gOType Ybaf.underlying42 (var?_below bel gO h0lt hv1) trivial _, bel.frame _, fun h => by cases h⟩
theorem order : Rows.LawS4962BOrderToldSaid :=
  Claim7.holds_of_told_tied_any_at .later 3 Ybaf.f3 "fmt.errorf" [] [] _ _ _ _ _ (by kernel_rfl) rfl rfl rfl laidOut (by kernel_rfl) rfl ⟨rfl, rfl, rfl, rfl, rfl, rfl, rfl⟩ rfl rfl (by kernel_rfl) (by kernel_rfl) Ybaf.func3 (by kernel_rfl)
    (of_decide_eq_true (by kernel_rfl)) (by unfold Func.isWrapper; first | (rw [if_pos (by decide +kernel)]; kernel_rfl) | (rw [if_neg (by decide +kernel)]; exact ⟨rfl, rfl⟩)) stops.symm rfl stopKnobs.symm (by kernel_rfl)
    (by kernel_rfl) (by kernel_rfl) (by kernel_rfl) (by kernel_rfl) (by kernel_rfl) (by kernel_rfl) (by kernel_rfl) (by kernel_rfl) (by kernel_rfl) rfl (by kernel_rfl) rfl rfl
    rfl rfl
    rfl (by kernel_rfl) (by kernel_rfl) (by kernel_rfl) (by decide) (by kernel_rfl) lawS4962BOrder_row_tie
    (OpenClaim.moreEntering_of (by kernel_rfl) (by kernel_rfl) (by kernel_rfl) (by kernel_rfl) (by kernel_rfl) (by kernel_rfl) (by kernel_rfl) (by kernel_rfl) (by kernel_rfl) (by kernel_rfl))
    ⟨_, WideRow.started_initial, quiet _⟩
    (fun os started _ H enc _ => lifted os started H enc)
end Go.Proofs.YbulkcxswFmt
