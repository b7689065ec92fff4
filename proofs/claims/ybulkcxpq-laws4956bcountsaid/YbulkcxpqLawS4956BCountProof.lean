import Derived.Test.YbulkcxpqRows
import Derived.Test.YbulkcxpqCount
import Derived.WalkKit
import Derived.ProofKit
import Derived.ShutString
import Derived.ChangeOld
import Derived.Below
import Derived.Deep.Slices
namespace Go.Proofs.Ybulkcxpq
open Go.ChangeShapes Go.WideShapes Go.ChangeAt Go.RowKit

theorem own : ownKnob Yba.prog.godebug = none := by kernel_rfl
theorem laidOut : laidOutB Yba.prog = true := by kernel_rfl
theorem cells4 : Yba.prog.cellsOf 4 = 1 := by kernel_rfl

theorem arg_open (a : Addr) (len cap : Nat) (lv : Nat → Bool) (W : World) (hpos : 0 < len) (hsmall : len ≤ 1024) (hc : ∀ i, i < len → W.cell? (a.add i) = some (.bool (lv i))) :
    Calls Yba.prog 3 #[.slice (some a) len cap] W fun e w' => e = .returned (.bool true) ∧ Below W.heap.size W w' := by
  obtain ⟨b, off, spot⟩ := a
  have hspot : spot = none := by simpa [Addr.add] using World.cell?_spot (hc 0 hpos)
  subst hspot
  have hb : b < W.heap.size := by
    have := World.block_lt_of_cell? W _ (hc 0 hpos)
    simpa [Addr.add] using this
  exact count_any b off len cap lv W hsmall hb (fun j hj => by have := hc j hj; rw [add_plain] at this; exact this)

set_option maxRecDepth 100000 in
theorem lifted (os : Os) (started : os.Started) (H : Type) (enc : TypeId × Value → H) :
    ReturnsInHanded {} Yba.checked os 3 .any (Rows.lawS4956BCountSpec.pre6 enc Yba.prog Yba.f3 Rows.lawS4956BCountRow.domain false) (Rows.lawS4956BCountSpec.post enc Yba.prog Yba.f3 false true false false) := by
  refine returnsInHanded_of_change (C := Yba.checked) own started (by kernel_rfl) Yba.func3
    (ChangeSpec.witness6 (enc := enc) (C := Yba.checked) false ⟨#[], #[.slice none 0 0], []⟩ 8 (by kernel_rfl) (by kernel_rfl) (by kernel_rfl) (by kernel_rfl)) ?_
  intro W base args ds gs before hval0 hW hcnd _
  have hval : ∀ (j : Nat) t v, Yba.f3.params[j]? = some t → args[j]? = some v → Value.okWide Yba.prog W .any base t v := hval0
  have hW' := hW
  obtain ⟨p, q, hA0, hV, rfl, hfz, hnd⟩ := hW
  have hA : DataW.TrodAll enc Yba.prog W 0 (fun _ => true) true Yba.f3.params.toList args.toList ds p := hA0
  rw [Yba.params3] at hA hval
  obtain ⟨v0, d0, rfl, rfl, h0⟩ := trodAll_one hA
  obtain ⟨rfl, rfl⟩ := trodVars_none hV
  obtain ⟨a0, len0, cap0, rfl⟩ := okWide_slice Yba.underlying22 (hval 0 22 v0 rfl rfl)
  have k0 := h0
  have lt0 : ∀ x ∈ p, x.block < W.heap.size := by obtain ⟨m, hm⟩ := k0; exact DataW.trod_lt m _ _ _ hm
  have main : Calls Yba.prog 3 #[.slice a0 len0 cap0] W fun e w' => e = .returned (.bool true) ∧ Below W.heap.size W w' := by
    obtain ⟨fuel, hf⟩ := h0
    rcases Nat.lt_or_ge 1024 len0 with hbig | hsmall
    · exact big a0 len0 cap0 W hbig
    · rcases Nat.eq_zero_or_pos len0 with hz | hpos
      · subst hz
        exact count_nil a0 cap0 W
      · rcases Go.Deep.open_slice1 Yba.underlying22 cells4 hf with ⟨hcs, _⟩ | ⟨a, len, cap, m, n, V, D, Pl, hcs, _, hl, hm, hmm, _, hx⟩
        · simp [Value.cells] at hcs
          omega
        · simp [Value.cells] at hcs
          obtain ⟨rfl, rfl, rfl⟩ := hcs
          simp only [if_true] at hmm
          have each : ∀ i, i < len0 → ∃ x : Bool, W.cell? (a.add i) = some (.bool x) := fun i hi => by
            obtain ⟨h1, h2⟩ := hx i (by omega)
            obtain ⟨x, hx1, _⟩ := DataW.trod_bool Yba.underlying4 h2
            simp at hx1
            exact ⟨x, by rw [h1, hx1]⟩
          obtain ⟨lv, hlv⟩ := Go.Deep.choose_lt each
          exact arg_open a len0 cap0 lv W hpos hsmall hlv
  clear hA0 hval0
  refine main.mono fun e W' ⟨he, bel⟩ => ?_
  subst he
  exact ⟨_, rfl, _, _, _, [], _, [], hW', trodAll_mk1 (shut_bool Yba.underlying4 _), trodAll_mk1 (Below.trod laidOut (by kernel_rfl) (of_decide_eq_true (by kernel_rfl)) k0 bel lt0), rfl, bel.frame _, fun h => by cases h⟩

theorem count : Rows.LawS4956BCountSaid :=
  OpenClaim.holds_of_wide 3 Yba.f3 rfl rfl rfl rfl rfl rfl rfl ⟨rfl, rfl, rfl, rfl, rfl⟩ rfl rfl rfl rfl rfl (by kernel_rfl) Yba.func3 (by kernel_rfl)
    (of_decide_eq_true (by kernel_rfl)) (by unfold Func.isWrapper; first | (rw [if_pos (by decide +kernel)]; kernel_rfl) | (rw [if_neg (by decide +kernel)]; exact ⟨rfl, rfl⟩))
    (fun os started H enc _ => lifted os started H enc)
end Go.Proofs.Ybulkcxpq
