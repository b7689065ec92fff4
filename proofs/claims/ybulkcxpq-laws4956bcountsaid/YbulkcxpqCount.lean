import Derived.Test.YbulkcxpqConn
import Derived.Deep.QuietTactic
import Derived.BigQuiet
import Derived.LaidEqlPtr
namespace Go.Proofs.Ybulkcxpq
open Go.RowKit Go.MuLone

theorem hidE {p : Prop} (h : p) : Hid p := h
theorem info24 : (Yba.prog.info? 24).map (fun i => (i.zero, i.size, i.bytes)) = some (some (.pointer none), 1, 8) := by kernel_rfl

theorem info49 : (Yba.prog.info? 49).isSome = true := by kernel_rfl

/-- The links as they are laid: 'k' of them have been looked at. -/
structure Laid (w wr : World) (gl n : Nat) (lv : Nat → Bool) (k : Nat) (ps : List Value) : Prop where
  own : wr.ownsRow w.heap.size 24 1 (.slice (some ⟨gl, 0, none⟩) n n) n ps
  yes : ∀ j, j < k → lv j = true → ∃ q, ps[j]? = some (.pointer (some ⟨q, 0, none⟩)) ∧ q ≠ gl ∧ q < wr.heap.size ∧ wr.cell? ⟨q, 0, none⟩ = some (.int .i64 (j : Nat))
  no : ∀ j, j < n → (k ≤ j ∨ lv j = false) → ps[j]? = some (.pointer none)
  hB : Below w.heap.size w wr

theorem laid_start {w w1 : World} {gl n : Nat} {lv : Nat → Bool} (h : w1.ownsRow w.heap.size 24 1 (.slice (some ⟨gl, 0, none⟩) n n) n (List.replicate n (.pointer none))) (hg : w.grownBy w1 none) : Laid w w1 gl n lv 0 (List.replicate n (.pointer none)) :=
  ⟨h, fun j hj => by omega, fun j hj _ => by simp [hj], (Below.refl _ w).grown hg (Nat.le_refl _) (by simp)⟩
theorem Laid.skip {w wr : World} {gl n : Nat} {lv : Nat → Bool} {k : Nat} {ps : List Value} (h : Laid w wr gl n lv k ps) (hk : lv k = false) : Laid w wr gl n lv (k + 1) ps := by
  refine ⟨h.own, fun j hj hl => ?_, fun j hj hc => h.no j hj ?_, h.hB⟩
  · rcases Nat.lt_succ_iff_lt_or_eq.1 hj with hlt | rfl
    · exact h.yes j hlt hl
    · rw [hk] at hl; cases hl
  · rcases hc with hc | hc
    · exact .inl (by omega)
    · exact .inr hc
theorem Laid.put {w wr : World} {gl n : Nat} {lv : Nat → Bool} {k : Nat} {ps : List Value} {o : Obj} (h : Laid w wr gl n lv k ps) (hk : k < n) (hl : lv k = true) (ho : (wr.alloc o).cell? ⟨wr.heap.size, 0, none⟩ = some (.int .i64 (k : Nat))) :
    Laid w ((wr.alloc o).setCell ⟨gl, k, none⟩ (.pointer (some ⟨wr.heap.size, 0, none⟩))) gl n lv (k + 1) (ps.set k (.pointer (some ⟨wr.heap.size, 0, none⟩))) := by
  have hgl := (h.own.lt gl rfl)
  have hlen : ps.length = n := by have := h.own.1; omega
  refine ⟨((h.own.alloc o).stored k _).1, fun j hj hlj => ?_, fun j hj hc => ?_, (h.hB.alloc h.hB.size o).setCell hgl.1 _⟩
  · rcases Nat.lt_succ_iff_lt_or_eq.1 hj with hlt | rfl
    · obtain ⟨q, h1, h2, h3, h4⟩ := h.yes j hlt hlj
      refine ⟨q, by rw [List.getElem?_set_ne (by omega)]; exact h1, h2, by simp; omega, ?_⟩
      rw [World.cell?_setCell_other _ ⟨gl, k, none⟩ ⟨q, 0, none⟩ _ (fun e => h2 (by injection e with e; exact e.symm)), World.cell?_alloc_lt wr o _ h3]
      exact h4
    · refine ⟨wr.heap.size, by rw [List.getElem?_set_self (by omega)], by omega, by simp, ?_⟩
      rw [World.cell?_setCell_other _ ⟨gl, j, none⟩ ⟨wr.heap.size, 0, none⟩ _ (fun e => by injection e with e; omega)]
      exact ho
  · have hne : j ≠ k := by
      intro e
      subst e
      rcases hc with hc | hc
      · omega
      · rw [hl] at hc; cases hc
    rw [List.getElem?_set_ne (by omega)]
    refine h.no j hj ?_
    rcases hc with hc | hc
    · exact .inl (by omega)
    · exact .inr hc

/-- Connected, said of the cells. -/
theorem conn_abs (M gl n : Nat) (lv : Nat → Bool) (w : World) (hn : n ≤ 1024) (h18 : w.cell? ⟨M, 18, none⟩ = some (.int .i32 0)) (f18 : w.frozen? ⟨M, 18, none⟩ = false) (h20 : w.cell? ⟨M, 20, none⟩ = some (.slice (some ⟨gl, 0, none⟩) n n)) (hne : M ≠ gl)
    (hV : ∀ j, j < n → ∃ x : Option Addr, w.cell? ⟨gl, j, none⟩ = some (.pointer x) ∧ x.isSome = lv j) :
    Calls Yba.prog 4 #[.pointer (some ⟨M, 0, none⟩)] w fun e w' => e = .returned (.int .i64 (cnt lv n : Nat)) ∧ (∀ a, a ≠ ⟨M, 18, none⟩ → w'.cell? a = w.cell? a) ∧ w'.cell? ⟨M, 18, none⟩ = some (.int .i32 0) ∧ w'.frozen? ⟨M, 18, none⟩ = false ∧ Below M w w' := by
  refine (conn_any M gl n lv w hn h18 f18 h20 hne hV).mono ?_
  rintro e w' ⟨rfl, rfl⟩
  refine ⟨rfl, fun a ha => ?_, ?_, by simp [f18], ((Below.refl M w).setCell (Nat.le_refl _) _).setCell (Nat.le_refl _) _⟩
  · rw [World.cell?_setCell_other _ _ _ _ (fun e => ha e.symm), World.cell?_setCell_other _ _ _ _ (fun e => ha e.symm)]
  · exact World.cell?_setCell_same _ _ _ (World.cell?_setCell_same _ _ _ h18)

theorem laid_row {w wr : World} {gl n : Nat} {lv : Nat → Bool} {ps : List Value} {o : Obj} (h : Laid w wr gl n lv n ps) : ∀ j, j < n → ∃ x : Option Addr, (wr.alloc o).cell? ⟨gl, j, none⟩ = some (.pointer x) ∧ x.isSome = lv j := by
  intro j hj
  rw [(h.own.alloc o).cellAt j (by omega)]
  cases hv : lv j with
  | true => obtain ⟨q, h1, _⟩ := h.yes j hj hv; exact ⟨_, h1, rfl⟩
  | false => exact ⟨none, h.no j hj (.inr hv), rfl⟩
/-- What the last loop reads, in whatever world holds the same but for the lock's word. -/
theorem meet_conn {w wr : World} {gl n b off : Nat} {lv : Nat → Bool} {ps : List Value} {o : Obj} (h : Laid w wr gl n lv n ps) (hc : ∀ j, j < n → w.cell? ⟨b, off + j, none⟩ = some (.bool (lv j))) (hb : b < w.heap.size) :
    ∀ w2 : World, (∀ a, a ≠ ⟨wr.heap.size, 18, none⟩ → w2.cell? a = (wr.alloc o).cell? a) → ∀ j, j < n → w2.cell? ⟨b, off + j, none⟩ = some (.bool (lv j)) ∧
      ((lv j = true ∧ ∃ q, w2.cell? ⟨gl, j, none⟩ = some (.pointer (some ⟨q, 0, none⟩)) ∧ w2.cell? ⟨q, 0, none⟩ = some (.int .i64 (j : Nat))) ∨ (lv j = false ∧ w2.cell? ⟨gl, j, none⟩ = some (.pointer none))) := by
  intro w2 hw j hj
  have hgl := h.own.lt gl rfl
  have hs := h.hB.size
  have far : ∀ x y, x < wr.heap.size → w2.cell? ⟨x, y, none⟩ = wr.cell? ⟨x, y, none⟩ := fun x y hx => by
    rw [hw _ (fun e => by injection e with e; omega), World.cell?_alloc_lt wr o _ hx]
  refine ⟨?_, ?_⟩
  · rw [far _ _ (by omega), h.hB.cell (p := ⟨b, off + j, none⟩) hb]; exact hc j hj
  · rw [far gl j hgl.2, h.own.cellAt j (by omega)]
    cases hv : lv j with
    | true =>
      obtain ⟨q, h1, _, h3, h4⟩ := h.yes j hj hv
      exact .inl ⟨rfl, q, h1, by rw [far q 0 h3]; exact h4⟩
    | false => exact .inr ⟨rfl, h.no j hj (.inr hv)⟩

theorem run_neq_ptr_same {P : Program} (w : World) {tp te : TypeId} {j : TypeInfo} (a : Addr) (hp : P.underlying tp = some (.pointer te)) (hte : P.info? te = some j) :
    (binOp .neq tp (.pointer (some a)) (.pointer (some a))).run P w = .ok (.bool false) w := by
  have h : ∀ d : Nat, (Op.equalIn (d + 1) tp (.pointer (some a)) (.pointer (some a))).run P w = .ok true w := fun d => by
    simp [Op.equalIn, run_underlying hp, sizeOf, typeInfo, hte, run_sameAddr_same]
  simp only [binOp]
  simp [Op.equal, Op.maxDepth, h 9999]

theorem big (ao : Option Addr) (len cap : Nat) (w : World) (h : 1024 < len) :
    Calls Yba.prog 3 #[.slice ao len cap] w fun e w' => e = .returned (.bool true) ∧ Below w.heap.size w w' := by
  go_enter Yba.func3, Yba.ntmps3
  go_wp2_with fail
  go_ret
  exact ⟨rfl, Below.refl _ _⟩

set_option maxRecDepth 100000 in
set_option maxHeartbeats 1000000 in
theorem count_any (b off n cap : Nat) (lv : Nat → Bool) (w : World) (hn : n ≤ 1024) (hb : b < w.heap.size) (hc : ∀ j, j < n → w.cell? ⟨b, off + j, none⟩ = some (.bool (lv j))) :
    Calls Yba.prog 3 #[.slice (some ⟨b, off, none⟩) n cap] w fun e w' => e = .returned (.bool true) ∧ Below w.heap.size w w' := by
  obtain ⟨i0, hi, hz0, hz1, hz2⟩ := info_parts info24
  obtain ⟨i49, hi49⟩ := Option.isSome_iff_exists.1 info49
  have HC : Hid (∀ j, j < n → w.cell? ⟨b, off + j, none⟩ = some (.bool (lv j))) := hc
  clear hc
  go_enter Yba.func3, Yba.ntmps3
  go_wp2_with (at_make; go_must (refine wpList_make_full _ rfl _ _ 23 rfl w.heap.size 24 i0 (.pointer none) 1 Yba.underlying23 hi hz0 hz1 .i64 .i64 n n n rfl rfl rfl rfl (by rw [hz2]; omega) (by unfold maxLen; omega) (Nat.le_refl _) ?_); intro w1 hown1 hgrow1)
  rw [Nat.mul_one] at hown1
  have hst : Hid (Laid w w1 w.heap.size n lv 0 (List.replicate n (.pointer none))) := laid_start (by rw [← toList_madeCells_one]; exact hown1) hgrow1
  clear hown1 hgrow1
  go_loopw [4, 5] (fun s4 s5 wr => ∃ (k : Nat) (ps : List Value), k ≤ n ∧ s4 = .int .i64 (cnt lv k : Nat) ∧ s5 = .int .i64 k ∧ Hid (Laid w wr w.heap.size n lv k ps)) (fun _ s5 _ => n - (intOf s5).toNat)
  case atStart => exact ⟨0, _, Nat.zero_le _, rfl, rfl, hst⟩
  case round =>
    obtain ⟨k, ps, hk, rfl, rfl, hl⟩ := hrel
    clear hst
    have hcl := cnt_le lv k
    by_cases hlt : k < n
    · have hcell : wr.cell? ⟨b, off + k, none⟩ = some (.bool (lv k)) := (hl.out.hB.cell hb).trans (HC.out k hlt)
      cases hv : lv k with
      | false =>
        rw [hv] at hcell
        have HX : Hid (cnt lv (k + 1) = cnt lv k) := by show _ = _; simp [cnt, hv]
        have HN : Hid (Laid w wr w.heap.size n lv (k + 1) ps) := hl.out.skip hv
        clear hv
        go_wp2_with fail
        go_roundw
        case rel => exact ⟨k + 1, ps, by omega, by rw [HX.out], by go_num, HN⟩
        case measure => simp [intOf]; omega
      | true =>
        rw [hv] at hcell
        have HX : Hid (cnt lv (k + 1) = cnt lv k + 1) := by show _ = _; simp [cnt, hv]
        have HV : Hid (lv k = true) := hv
        obtain ⟨u, hu⟩ : ∃ u, ∀ o, (wr.alloc o).cell? ⟨w.heap.size, k, none⟩ = some u := by
          refine ⟨ps[k]'(by have := hl.out.own.1; omega), fun o => ?_⟩
          rw [(hl.out.own.alloc o).cellAt k (by omega)]
          simp
        have hf : ∀ o, (wr.alloc o).frozen? ⟨w.heap.size, k, none⟩ = false := fun o => (hl.out.own.alloc o).frozenAt k
        clear hv
        go_wp2_with fail
        go_roundw
        case rel => exact ⟨k + 1, _, by omega, by rw [HX.out]; go_num, by go_num, hl.out.put hlt HV.out (by simp)⟩
        case measure => simp [intOf]; omega
    · have hkn : k = n := by omega
      subst hkn
      have hlu : w.heap.size < wr.heap.size := (hl.out.own.lt _ rfl).2
      have HMC := fun o => meet_conn (o := o) hl.out HC.out hb
      have HB0 : Hid (Below w.heap.size w wr) := hl.out.hB
      have HRB := fun o => laid_row (o := o) hl.out
      have HRH := hidE HRB
      have HMH := hidE HMC
      clear hl HMC HRB
      go_wp2_with fail
      refine (conn_abs wr.heap.size w.heap.size k lv _ hn (by simp) (by simp) (by simp) (by omega) (HRH.out _)).mono ?_
      rintro e w2 ⟨rfl, hcells, h18, f18, hB2⟩
      have HALL := hidE (HMH.out _ w2 hcells)
      have h20 : w2.cell? ⟨wr.heap.size, 20, none⟩ = some (.slice (some ⟨w.heap.size, 0, none⟩) k k) := (hcells _ (by simp)).trans (by simp)
      have HBW : Hid (Below w.heap.size w w2) := (HB0.out.alloc HB0.out.size _).trans (hB2.mono (Nat.le_of_lt hlu))
      have H18 : Hid (w2.cell? ⟨wr.heap.size, 18, none⟩ = some (.int .i32 0)) := h18
      have F18 : Hid (w2.frozen? ⟨wr.heap.size, 18, none⟩ = false) := f18
      clear hcells hB2 HRH HMH HB0 h18 f18
      generalize wr.heap.size = M at *
      generalize hgl : w.heap.size = gl at *
      have HGL : Hid (w.heap.size = gl) := hgl
      clear hgl
      go_wp2_with fail
      go_loopw [8] (fun s8 wr => ∃ j : Nat, j ≤ k ∧ s8 = .int .i64 j ∧ Hid (∃ q, wr = w2.drewN q)) (fun s8 _ => k - (intOf s8).toNat)
      case atStart => exact ⟨0, Nat.zero_le _, rfl, 0, rfl⟩
      case round =>
        obtain ⟨j, hjk, rfl, hwr⟩ := hrel
        by_cases hj : j < k
        · obtain ⟨ha', hrow⟩ := HALL.out j hj
          have hjz : (j : Int) < (k : Int) := by omega
          rcases hrow with ⟨hv, q, hp', hq'⟩ | ⟨hv, hp'⟩
          · rw [hv] at ha'
            have ha : wr.cell? ⟨b, off + j, none⟩ = some (.bool true) := by obtain ⟨x, rfl⟩ := hwr.out; exact ha'
            have hp : wr.cell? ⟨gl, j, none⟩ = some (.pointer (some ⟨q, 0, none⟩)) := by obtain ⟨x, rfl⟩ := hwr.out; exact hp'
            have hq : wr.cell? ⟨q, 0, none⟩ = some (.int .i64 (j : Nat)) := by obtain ⟨x, rfl⟩ := hwr.out; exact hq'
            have hm : wr.cell? ⟨M, 20, none⟩ = some (.slice (some ⟨gl, 0, none⟩) k k) := by obtain ⟨x, rfl⟩ := hwr.out; exact h20
            have hpt := fun wx => run_neq_ptr_same (P := Yba.prog) wx (tp := 24) ⟨q, 0, none⟩ Yba.underlying24 hi49
            clear ha' hp' hq' hv
            go_wp2_with fail
            go_quiet (fail)
            go_wp2_with fail
            go_roundw
            case rel => exact ⟨j + 1, by omega, by go_num, by obtain ⟨x, rfl⟩ := hwr.out; exact ⟨_, World.drewN_drewN ..⟩⟩
            case measure => simp [intOf]; omega
          · rw [hv] at ha'
            have ha : wr.cell? ⟨b, off + j, none⟩ = some (.bool false) := by obtain ⟨x, rfl⟩ := hwr.out; exact ha'
            have hp : wr.cell? ⟨gl, j, none⟩ = some (.pointer none) := by obtain ⟨x, rfl⟩ := hwr.out; exact hp'
            have hm : wr.cell? ⟨M, 20, none⟩ = some (.slice (some ⟨gl, 0, none⟩) k k) := by obtain ⟨x, rfl⟩ := hwr.out; exact h20
            clear ha' hp' hv
            go_wp2_with fail
            go_roundw
            case rel => exact ⟨j + 1, by omega, by go_num, hwr⟩
            case measure => simp [intOf]; omega
        · have hc18 : wr.cell? ⟨M, 18, none⟩ = some (.int .i32 0) := by obtain ⟨x, rfl⟩ := hwr.out; exact H18.out
          have hf18 : wr.frozen? ⟨M, 18, none⟩ = false := by obtain ⟨x, rfl⟩ := hwr.out; exact F18.out
          have HBR : Hid (Below gl w wr) := by obtain ⟨x, rfl⟩ := hwr.out; exact below_drewN HBW.out x
          have HT := try_free ⟨M, 18, none⟩ wr hc18 hf18
          have HU := unlock_held Yba.muLib ⟨M, 18, none⟩ (wr.setCell ⟨M, 18, none⟩ (.int .i32 1)) (World.cell?_setCell_same _ _ _ hc18) (by simp [hf18])
          clear hc18 hf18
          go_wp2_with fail
          refine HT.mono ?_
          rintro e w3 ⟨rfl, rfl⟩
          go_wp2_with fail
          refine HU.mono ?_
          rintro e w4 ⟨rfl, rfl⟩
          go_wp2_with fail
          go_ret
          refine ⟨rfl, ?_⟩
          rw [HGL.out]
          exact (HBR.out.setCell (p := ⟨M, 18, none⟩) (Nat.le_of_lt hlu) _).setCell (p := ⟨M, 18, none⟩) (Nat.le_of_lt hlu) _

set_option maxRecDepth 100000 in
set_option maxHeartbeats 1000000 in
theorem count_nil (ao : Option Addr) (cap : Nat) (w : World) :
    Calls Yba.prog 3 #[.slice ao 0 cap] w fun e w' => e = .returned (.bool true) ∧ Below w.heap.size w w' := by
  obtain ⟨i0, hi, hz0, hz1, hz2⟩ := info_parts info24
  go_enter Yba.func3, Yba.ntmps3
  go_wp2_with (at_make; refine wpList_make_full _ rfl _ _ 23 rfl w.heap.size 24 i0 (.pointer none) 1 Yba.underlying23 hi hz0 hz1 .i64 .i64 0 0 0 rfl rfl rfl rfl (by rw [hz2]; omega) (by unfold maxLen; omega) (Nat.le_refl _) ?_; intro w1 hown1 hgrow1)
  have hlu : w.heap.size < w1.heap.size := (hown1.lt _ rfl).2
  have HB0 : Hid (Below w.heap.size w w1) := (Below.refl _ w).grown hgrow1 (Nat.le_refl _) (by simp)
  clear hown1 hgrow1
  refine wp_loop_rounds 1 ?_
  rw [rounds_succ]
  go_wp2_with fail
  refine (conn_abs w1.heap.size w.heap.size 0 (fun _ => false) _ (by omega) (by simp) (by simp) (by simp) (by omega) (fun j hj => by omega)).mono ?_
  rintro e w2 ⟨rfl, hcells, h18, f18, hB2⟩
  have h20 : w2.cell? ⟨w1.heap.size, 20, none⟩ = some (.slice (some ⟨w.heap.size, 0, none⟩) 0 0) := (hcells _ (by simp)).trans (by simp)
  have HBW : Hid (Below w.heap.size w w2) := (HB0.out.alloc HB0.out.size _).trans (hB2.mono (Nat.le_of_lt hlu))
  have HT := try_free ⟨w1.heap.size, 18, none⟩ w2 h18 f18
  have HU := unlock_held Yba.muLib ⟨w1.heap.size, 18, none⟩ (w2.setCell ⟨w1.heap.size, 18, none⟩ (.int .i32 1)) (World.cell?_setCell_same _ _ _ h18) (by simp [f18])
  clear hcells hB2 HB0 h18 f18
  go_wp2_with fail
  refine wp_loop_rounds 1 ?_
  rw [rounds_succ]
  go_wp2_with fail
  refine HT.mono ?_
  rintro e w3 ⟨rfl, rfl⟩
  go_wp2_with fail
  refine HU.mono ?_
  rintro e w4 ⟨rfl, rfl⟩
  go_wp2_with fail
  go_ret
  exact ⟨rfl, (HBW.out.setCell (p := ⟨w1.heap.size, 18, none⟩) (Nat.le_of_lt hlu) _).setCell (p := ⟨w1.heap.size, 18, none⟩) (Nat.le_of_lt hlu) _⟩
end Go.Proofs.Ybulkcxpq
