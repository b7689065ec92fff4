import Derived.Test.YbulkcxswFmtRes
import Derived.Test.YbulkcxswFmtIs
import Derived.Test.YbulkcxswFmtRegG
import Derived.Test.YbulkcxswFmtSetE
import Derived.Deep.DeepCutAuto
namespace Go.Proofs.YbulkcxswFmt
open Go Go.RowKit Go.Deep Go.Extern.Stop Go.Stop Go.Extern

/-- The argument, as it reads in the world. -/
structure Spec (w : World) (ao : Option Addr) (n : Nat) (cu : Nat → Bool) (wa : Nat → Option Addr) (ln wc : Nat → Nat) (wt : Nat → Nat → Nat) (ty po : Nat → ByteArray) : Prop where
  at_ : 0 < n → ∃ b off, ao = some ⟨b, off, none⟩ ∧ b < w.heap.size ∧ ∀ i, i < n → w.cell? ⟨b, off + i * 4, none⟩ = some (.bool (cu i)) ∧ w.cell? ⟨b, off + i * 4 + 1, none⟩ = some (.slice (wa i) (ln i) (wc i)) ∧ w.cell? ⟨b, off + i * 4 + 2, none⟩ = some (.string (ty i)) ∧ w.cell? ⟨b, off + i * 4 + 3, none⟩ = some (.string (po i))
  waits : ∀ i, i < n → 0 < ln i → ∃ wb wo, wa i = some ⟨wb, wo, none⟩ ∧ wb < w.heap.size ∧ ∀ j, j < ln i → w.cell? ⟨wb, wo + j, none⟩ = some (.int .u8 (wt i j)) ∧ wt i j ≤ 255
theorem Spec.below {w w' : World} {ao : Option Addr} {n : Nat} {cu : Nat → Bool} {wa : Nat → Option Addr} {ln wc : Nat → Nat} {wt : Nat → Nat → Nat} {ty po : Nat → ByteArray} (h : Spec w ao n cu wa ln wc wt ty po) (hb : Below w.heap.size w w') : Spec w' ao n cu wa ln wc wt ty po where
  at_ := fun hn => by
    obtain ⟨b, off, rfl, hlt, hc⟩ := h.at_ hn
    refine ⟨b, off, rfl, Nat.lt_of_lt_of_le hlt hb.size, fun i hi => ?_⟩
    obtain ⟨h0, h1, h2, h3⟩ := hc i hi
    exact ⟨(hb.cell hlt).trans h0, (hb.cell hlt).trans h1, (hb.cell hlt).trans h2, (hb.cell hlt).trans h3⟩
  waits := fun i hi hp => by
    obtain ⟨wb, wo, hw, hlt, hc⟩ := h.waits i hi hp
    exact ⟨wb, wo, hw, Nat.lt_of_lt_of_le hlt hb.size, fun j hj => ⟨(hb.cell hlt).trans (hc j hj).1, (hc j hj).2⟩⟩

theorem eqlNil30 (w : World) : (Go.binOp BinOp.eql 30 (.slice none 0 0) (.slice none 0 0)).run Ybaf.prog w = .ok (.bool true) w := by kernel_rfl
theorem info40 : (Ybaf.prog.info? 40).map (fun i => (i.zero, i.size, i.bytes)) = some (some (.slice none 0 0), 1, 24) := by kernel_rfl
theorem info35 : (Ybaf.prog.info? 35).map (fun i => (i.zero, i.size, i.bytes)) = some (some (.slice none 0 0), 1, 24) := by kernel_rfl
structure B3At (wb wx : World) (H B0 n k lnk j : Nat) (dvf : Nat → Value) (dk : List Nat) (v : Value) : Prop where
  kept : Kept [H, B0 + 1] wb wx
  row : wx.rowIs H 35 n (fun x => if x = k then v else dvf x)
  own : wx.ownsRow (B0 + 2) 3 1 v j ((dk.take j).map enI)
  wrow : wx.rowIs (B0 + 1) 9 lnk (fun y => .string (if y < j then nm (dk.getD y 0) else ⟨#[]⟩))

theorem B3At.start {wk : World} {H n k lk : Nat} {dvf : Nat → Value} {dk : List Nat} {x0 x1 x2 x3 : Value} (hr : wk.rowIs H 35 n dvf) (hk : dvf k = .slice none 0 0) :
    B3At ((wk.alloc (.cells #[x0, x1, x2, x3] 25)).alloc (.cells (madeCells #[.string ⟨#[]⟩] lk) 9)) ((wk.alloc (.cells #[x0, x1, x2, x3] 25)).alloc (.cells (madeCells #[.string ⟨#[]⟩] lk) 9)) H wk.heap.size n k lk 0 dvf dk (.slice none 0 0) where
  kept := Kept.refl _ _
  row := ((hr.alloc _).alloc _).congr (fun x _ => by
    by_cases e : x = k
    · rw [if_pos e, e, hk]
    · rw [if_neg e])
  own := World.ownsRow_nil _ _ _ _
  wrow := by
    have := World.rowIs_made (wk.alloc (.cells #[x0, x1, x2, x3] 25)) (.string ⟨#[]⟩) lk 9
    rw [show (wk.alloc (.cells #[x0, x1, x2, x3] 25)).heap.size = wk.heap.size + 1 from Array.size_push _] at this
    exact this.congr (fun x _ => by simp)
theorem B3At.step {wb wx w4 w6 : World} {H B0 n k lnk j g cap' d : Nat} {dvf : Nat → Value} {dk : List Nat} {v : Value} (h : B3At wb wx H B0 n k lnk j dvf dk v) (hsz : wb.heap.size = B0 + 2) (hH : H < B0) (hj : j < lnk) (hdk : dk.length = lnk) (hd : d = dk.getD j 0)
    (hown : w4.ownsRow (B0 + 2) 3 1 (.slice (some ⟨g, 0, none⟩) (j + 1) cap') (j + 1) ((dk.take j).map enI ++ [.int .i64 d])) (hgr : (wx.alloc (.cells [Value.int .i64 d].toArray 3)).grownBy w4 v.ownBlock) (hbg : B0 + 2 ≤ g)
    (hb6 : Below (w4.setCell ⟨H, k, none⟩ (.slice (some ⟨g, 0, none⟩) (j + 1) cap')).heap.size (w4.setCell ⟨H, k, none⟩ (.slice (some ⟨g, 0, none⟩) (j + 1) cap')) w6) :
    B3At wb ((w6.alloc (.cells #[.string (nm d)] 9)).setCell ⟨B0 + 1, j, none⟩ (.string (nm d))) H B0 n k lnk (j + 1) dvf dk (.slice (some ⟨g, 0, none⟩) (j + 1) cap') := by
  have hvo : ∀ x, v.ownBlock = some x → B0 + 2 ≤ x := fun x hx => (h.own.lt x hx).1
  have k4 : Kept v.ownBlock.toList wx w4 := ((Kept.refl _ wx).alloc _).grown hgr (fun x hx _ => by rw [hx]; simp)
  have k5 : Kept [H] w4 (w4.setCell ⟨H, k, none⟩ (.slice (some ⟨g, 0, none⟩) (j + 1) cap')) := (Kept.refl _ w4).setCell (fun _ => by simp) _
  have k6 := Below.kept hb6 []
  have k7 : Kept [B0 + 1] w6 ((w6.alloc (.cells #[.string (nm d)] 9)).setCell ⟨B0 + 1, j, none⟩ (.string (nm d))) := ((Kept.refl _ w6).alloc _).setCell (fun _ => by simp) _
  have hno : ∀ x ∈ v.ownBlock.toList, x ≠ H ∧ x ≠ B0 + 1 := fun x hx => by
    have := hvo x (by simpa using hx)
    omega
  have hnH : H ∉ v.ownBlock.toList := fun hm => (hno H hm).1 rfl
  have hnB : B0 + 1 ∉ v.ownBlock.toList := fun hm => (hno (B0 + 1) hm).2 rfl
  have htk : dk.take (j + 1) = dk.take j ++ [d] := by
    rw [List.take_add_one, List.getElem?_eq_getElem (by omega), hd, List.getD_eq_getElem?_getD, List.getElem?_eq_getElem (by omega)]; rfl
  refine ⟨?_, ?_, ?_, ?_⟩
  · have e1 : Kept (H :: (B0 + 1) :: v.ownBlock.toList) wx ((w6.alloc (.cells #[.string (nm d)] 9)).setCell ⟨B0 + 1, j, none⟩ (.string (nm d))) :=
      ((k4.trans k5 (S := H :: (B0 + 1) :: v.ownBlock.toList) (fun x hx => by simp at hx ⊢; exact .inr (.inr hx)) (fun x hx _ => by simp at hx ⊢; exact .inl hx)).trans k6 (fun x hx => hx) (by simp)).trans k7 (fun x hx => hx) (fun x hx _ => by simp at hx ⊢; exact .inr (.inl hx))
    refine h.kept.trans e1 (fun x hx => hx) (fun x hx hlt => ?_)
    simp only [List.mem_cons, List.not_mem_nil, or_false] at hx ⊢
    rcases hx with hx | hx | hx
    · exact .inl hx
    · exact .inr hx
    · have := hvo x (by simpa using hx)
      omega
  · have r4 := k4.row h.row hnH
    have r5 := r4.set k (.slice (some ⟨g, 0, none⟩) (j + 1) cap')
    refine (k7.row (k6.row r5 (by simp)) (by simp; omega)).congr (fun x _ => ?_)
    by_cases e : x = k
    · rw [if_pos e, if_pos e]
    · rw [if_neg e, if_neg e, if_neg e]
  · have o5 := k5.owns hown (fun x hx => by
      have : x = g := by simpa [Value.ownBlock] using hx.symm
      simp; omega)
    have o7 := k7.owns (k6.owns o5 (by simp)) (fun x hx => by
      have : x = g := by simpa [Value.ownBlock] using hx.symm
      simp; omega)
    rw [htk, List.map_append]
    exact o7
  · have r6 := k6.row (k5.row (k4.row h.wrow hnB) (by simp; omega)) (by simp)
    refine ((r6.alloc _).set j _).congr (fun y hy => ?_)
    by_cases e : y = j
    · rw [if_pos e, e, if_pos (by omega), ← hd]
    · rw [if_neg e]
      by_cases e2 : y < j
      · rw [if_pos e2, if_pos (by omega)]
      · rw [if_neg e2, if_neg (by omega)]

theorem set_res {k B : Nat} {cu : Nat → Bool} {ty po : Nat → ByteArray} {ws : Nat → Value} {lk : Nat} (hk : k < 256) :
    setM (named (List.range k) (resV cu ty po ws)) (nm k) (.agg #[.string (ty k), .bool (cu k), .string (po k), .nilIface, .slice none 0 0, .slice (some ⟨B, 0, none⟩) lk lk]) = named (List.range (k + 1)) (resV cu ty po (fun x => if x = k then .slice (some ⟨B, 0, none⟩) lk lk else ws x)) := by
  rw [setM_new (by rw [getM_named _ (by omega) _ (fun x hx => by have := List.mem_range.1 hx; omega), if_neg (by simp)]), List.range_succ]
  unfold named
  rw [List.map_append]
  congr 1
  · refine List.map_congr_left (fun x hx => ?_)
    have hx2 : x ≠ k := by have := List.mem_range.1 hx; omega
    simp [resV, hx2]
  · simp [resV]
theorem Built.step {w wk wb wr w9 : World} {H n k lk : Nat} {deps : Nat → List Nat} {cu : Nat → Bool} {ty po : Nat → ByteArray} {dv ws : Nat → Value} {dk : List Nat} {v : Value} (h : Built w wk H n k deps cu ty po dv ws) (hkn : k < n) (hn : n ≤ 256) (KB : Kept [] wk wb)
    (b0 : B3At wb wr H wk.heap.size n k lk lk (fun x => if x < k then dv x else .slice none 0 0) dk v) (hwbs : wb.heap.size = wk.heap.size + 2) (hdl : dk.length = lk) (hdk : dk = deps k) (hb9 : Below wr.heap.size wr w9) :
    Built w (World.putObj w9 (H + 1) (mapObj (named (List.range (k + 1)) (resV cu ty po (fun x => if x = k then .slice (some ⟨wk.heap.size + 1, 0, none⟩) lk lk else ws x))))) H n (k + 1) deps cu ty po (fun x => if x = k then v else dv x) (fun x => if x = k then .slice (some ⟨wk.heap.size + 1, 0, none⟩) lk lk else ws x) := by
  have hsz := h.size
  have k9 := Below.kept hb9 []
  have kwr : Kept [H, wk.heap.size + 1] wk wr := (KB.mono (by simp)).then b0.kept
  have hzr : wk.heap.size + 2 ≤ wr.heap.size := by have := b0.kept.size; omega
  have hm : StrMap (World.putObj w9 (H + 1) (mapObj (named (List.range (k + 1)) (resV cu ty po (fun x => if x = k then .slice (some ⟨wk.heap.size + 1, 0, none⟩) lk lk else ws x))))) (H + 1) (named (List.range (k + 1)) (resV cu ty po (fun x => if x = k then .slice (some ⟨wk.heap.size + 1, 0, none⟩) lk lk else ws x))) := by
    have m9 : StrMap w9 (H + 1) (named (List.range k) (resV cu ty po ws)) := k9.strMap (kwr.strMap h.map (by simp; omega)) (by simp)
    have := m9.put (nm k) (.agg #[.string (ty k), .bool (cu k), .string (po k), .nilIface, .slice none 0 0, .slice (some ⟨wk.heap.size + 1, 0, none⟩) lk lk])
    rwa [set_res (by omega)] at this
  have kp : Kept [H + 1] w9 (World.putObj w9 (H + 1) (mapObj (named (List.range (k + 1)) (resV cu ty po (fun x => if x = k then .slice (some ⟨wk.heap.size + 1, 0, none⟩) lk lk else ws x))))) := (Kept.refl _ w9).putObj (fun _ => by simp) _
  generalize World.putObj w9 (H + 1) (mapObj (named (List.range (k + 1)) (resV cu ty po (fun x => if x = k then .slice (some ⟨wk.heap.size + 1, 0, none⟩) lk lk else ws x)))) = wf at hm kp ⊢
  have kall : Kept [H, wk.heap.size + 1, H + 1] wk wf :=
    ((kwr.trans k9 (S := [H, wk.heap.size + 1, H + 1]) (by simp) (by simp)).trans kp (fun x hx => hx) (by simp))
  have hfin : ∀ {b : Nat} {t c : Nat} {f : Nat → Value}, wr.rowIs b t c f → b ≠ H + 1 → wf.rowIs b t c f := fun hr hb => kp.row (k9.row hr (by simp)) (by simpa using hb)
  refine ⟨?_, hm, ?_, ?_, ?_, ?_, h.le, ?_⟩
  · refine (hfin b0.row (by omega)).congr (fun x _ => ?_)
    by_cases e : x = k
    · rw [if_pos e, if_pos (by omega), if_pos e]
    · rw [if_neg e, if_neg e]
      by_cases e2 : x < k
      · rw [if_pos e2, if_pos (by omega)]
      · rw [if_neg e2, if_neg (by omega)]
  · exact hfin (kwr.row h.tmpl (by simp; omega)) (by omega)
  · intro x hx
    by_cases e : x = k
    · subst e
      simp only [if_true]
      have o1 := kp.owns (k9.owns b0.own (by simp)) (fun y hy => by have := (b0.own.lt y hy).1; simp; omega)
      rw [← hdl, List.take_length] at o1
      rw [← hdk]
      exact IsRow.of_owns o1 (fun y hy => by simp at hy; omega)
    · simp only [if_neg e]
      exact (h.ints x (by omega)).kept kall (fun y hy => by simp at hy ⊢; omega)
  · intro x hx
    by_cases e : x = k
    · subst e
      simp only [if_true]
      rw [← hdk, ← hdl]
      refine IsRow.of_row (hfin b0.wrow (by omega)) (by omega) (by simp; omega) (fun y hy => ?_) _
      rw [if_pos (by omega)]
      rfl
    · simp only [if_neg e]
      exact (h.names x (by omega)).kept kall (fun y hy => by simp at hy ⊢; omega)
  · exact h.old.trans (kall.below h.old.size (by have := h.le; have := h.old.size; simp; omega))
  · have := kall.size
    omega

structure F69 (w : World) (R0 b off i : Nat) (ni ti pi : ByteArray) (ci : Bool) (dep : Value) : Prop where
  x0 : w.cell? ⟨R0, 0, none⟩ = some (.string ni)
  x1 : w.cell? ⟨R0, 1, none⟩ = some (.string ti)
  x2 : w.cell? ⟨R0, 2, none⟩ = some (.bool ci)
  x3 : w.cell? ⟨R0, 3, none⟩ = some dep
  x4 : w.cell? ⟨R0, 4, none⟩ = some (.string pi)
  y0 : w.cell? ⟨b, off + i * 4, none⟩ = some (.bool ci)
  y2 : w.cell? ⟨b, off + i * 4 + 2, none⟩ = some (.string ti)
  y3 : w.cell? ⟨b, off + i * 4 + 3, none⟩ = some (.string pi)
theorem F69.below {w w' : World} {R0 b off i : Nat} {ni ti pi : ByteArray} {ci : Bool} {dep : Value} (h : F69 w R0 b off i ni ti pi ci dep) (hb : Below w.heap.size w w') : F69 w' R0 b off i ni ti pi ci dep :=
  ⟨(hb.cell (World.block_lt_of_cell? _ _ h.x0)).trans h.x0, (hb.cell (World.block_lt_of_cell? _ _ h.x1)).trans h.x1, (hb.cell (World.block_lt_of_cell? _ _ h.x2)).trans h.x2, (hb.cell (World.block_lt_of_cell? _ _ h.x3)).trans h.x3, (hb.cell (World.block_lt_of_cell? _ _ h.x4)).trans h.x4, (hb.cell (World.block_lt_of_cell? _ _ h.y0)).trans h.y0, (hb.cell (World.block_lt_of_cell? _ _ h.y2)).trans h.y2, (hb.cell (World.block_lt_of_cell? _ _ h.y3)).trans h.y3⟩
structure C4At (wc wx : World) (P0 n : Nat) (pl : List Nat) (deps : Nat → List Nat) : Prop where
  kept : Kept [P0, P0 + 1] wc wx
  placed : wx.rowIs P0 4 n (fun x => .bool (decide (x ∈ pl)))
  order : wx.rowIs (P0 + 1) 3 n (fun j => .int .i64 ((if j < pl.length then pl.getD j 0 else 0 : Nat) : Int))
  road : Road deps n pl
theorem C4At.start {wr : World} {n : Nat} (deps : Nat → List Nat) :
    C4At ((wr.alloc (.cells (madeCells #[.bool false] n) 4)).alloc (.cells (madeCells #[.int .i64 0] n) 3)) ((wr.alloc (.cells (madeCells #[.bool false] n) 4)).alloc (.cells (madeCells #[.int .i64 0] n) 3)) wr.heap.size n [] deps where
  kept := Kept.refl _ _
  placed := ((World.rowIs_made wr (.bool false) n 4).alloc _).congr (fun x _ => by simp)
  order := by
    have := World.rowIs_made (wr.alloc (.cells (madeCells #[.bool false] n) 4)) (.int .i64 0) n 3
    rw [show (wr.alloc (.cells (madeCells #[.bool false] n) 4)).heap.size = wr.heap.size + 1 from Array.size_push _] at this
    exact this.congr (fun x _ => by simp)
  road := Road.start _ _
theorem C4At.step {wc wx : World} {P0 n : Nat} {pl : List Nat} {deps : Nat → List Nat} (h : C4At wc wx P0 n pl deps) (hl : pl.length < n) {i : Nat} (hi : nextFree deps n pl = some i) :
    C4At wc (((wx.setCell ⟨P0, i, none⟩ (.bool true)).alloc (.cells #[.int .i64 i] 3)).setCell ⟨P0 + 1, pl.length, none⟩ (.int .i64 i)) P0 n (pl ++ [i]) deps where
  kept := ((h.kept.setCell (fun _ => by simp) _).alloc _).setCell (fun _ => by simp) _
  placed := (((h.placed.set i _).alloc _).setOther (by show P0 ≠ P0 + 1; omega) _).congr (fun x _ => by
    by_cases e : x = i
    · simp [e]
    · simp [e])
  order := (((h.order.setOther (by show P0 + 1 ≠ P0; omega) _).alloc _).set pl.length _).congr (fun x _ => by
    by_cases e : x = pl.length
    · rw [if_pos e, e]
      simp
    · rw [if_neg e]
      by_cases e2 : x < pl.length
      · rw [if_pos e2, if_pos (by simp; omega)]
        simp [List.getElem?_append_left e2]
      · rw [if_neg e2, if_neg (by simp; omega)])
  road := h.road.step hl hi
theorem nextFree_found {deps : Nat → List Nat} {n : Nat} {pl : List Nat} {k : Nat} (hkn : k < n) (hr : ready deps n pl k = true) (hb : ∀ j, j < k → ready deps n pl j = false) : nextFree deps n pl = some k := by
  cases hf : nextFree deps n pl with
  | none => exact absurd hr (List.find?_eq_none.1 hf k (List.mem_range.2 hkn))
  | some x =>
    have hx1 := List.find?_some hf
    rcases Nat.lt_trichotomy x k with h | h | h
    · rw [hb x h] at hx1; cases hx1
    · rw [h]
    · have := find_range_least hf k h
      rw [hr] at this; cases this

set_option maxRecDepth 100000 in
set_option maxHeartbeats 40000000 in
theorem lawA (F : Interp) (a : Addr) (s : ByteArray) (ao : Option Addr) (n cap : Nat) (cu : Nat → Bool) (wa : Nat → Option Addr) (ln wc : Nat → Nat) (wt : Nat → Nat → Nat) (ty po : Nat → ByteArray) (w : World) (hF : F.answers w.tape) (hse : Sent w a s) (hs : Spec w ao n cu wa ln wc wt ty po) (hbig : n ≤ 256) :
    Calls Ybaf.prog 3 #[.slice ao n cap] w fun e w' => e = .returned (.bool true) ∧ Below w.heap.size w w' := by
  have HS := hidE hs
  have HF := hidE hF
  have HSE := hidE hse
  clear hs hF hse
  have q1 : Hid (Below w.heap.size w w) := Below.refl _ _
  go_enter Ybaf.func3, Ybaf.ntmps3
  go_wp2_with fail
  go_loopw [38] (fun s38 wr => ∃ k : Nat, k ≤ n ∧ s38 = .int .i64 k ∧ Hid (∀ j, j < k → ln j ≤ 256) ∧ Hid (Below w.heap.size w wr)) (fun s38 _ => n - (intOf s38).toNat)
  case atStart => exact ⟨0, by omega, rfl, fun j hj => absurd hj (by omega), q1⟩
  case round =>
    clear q1
    obtain ⟨k, hk, rfl, hln, q1⟩ := hrel
    by_cases hkn : k < n
    · obtain ⟨b, off, rfl, hlt, hc⟩ := (HS.out.below q1.out).at_ (by omega)
      obtain ⟨c0, c1, c2, c3⟩ := hc k hkn
      clear hc
      by_cases hl : ln k ≤ 256
      · go_wp2_with fail
        go_roundw
        case rel => exact ⟨k + 1, by omega, by go_num, fun j hj => by
          rcases Nat.lt_or_ge j k with h | h
          · exact hln.out j h
          · have : j = k := by omega
            rw [this]; exact hl, q1.out.alloc q1.out.size _⟩
        case measure => simp [intOf]; omega
      · go_wp2_with fail
        go_ret
        exact ⟨rfl, q1.out.alloc q1.out.size _⟩
    · have hmk := fun wx => run_make_row' (P := Ybaf.prog) 26 35 (.slice none 0 0) 24 Ybaf.underlying26 info35 rfl .i64 .i64 n (by omega) (by omega) wx
      have hmm := fun wx => makeMap_sized (P := Ybaf.prog) 28 9 39 Ybaf.underlying28 n wx
      have HLN : Hid (∀ j, j < n → ln j ≤ 256) := fun j hj => hln.out j (by omega)
      have j0 := hidE (Built.start (n := n) (depsOf n ln wt) cu ty po (fun _ => .slice none 0 0) (fun _ => .slice none 0 0) q1.out)
      go_wp2_with fail
      clear hmk hmm hln q1
      generalize ((wr.alloc (.cells (madeCells #[.slice none 0 0] n) 35)).alloc (.map #[] 0)).alloc (.cells #[.map none, .map (some (wr.heap.size + 1)), .slice none 0 0, .slice none 0 0] 33) = w1 at *
      generalize wr.heap.size = H at *
      go_loopw [55] (fun s55 wr => ∃ (k : Nat) (dv ws : Nat → Value), k ≤ n ∧ s55 = .int .i64 k ∧ Hid (Built w wr H n k (depsOf n ln wt) cu ty po dv ws)) (fun s55 _ => n - (intOf s55).toNat)
      case atStart => exact ⟨0, _, _, by omega, rfl, j0⟩
      case round =>
        clear j0 hk hkn
        obtain ⟨k, dv, ws, hk, rfl, j0⟩ := hrel
        by_cases hkn : k < n
        · obtain ⟨wk, hwk⟩ : ∃ wk, wk = wr := ⟨_, rfl⟩
          subst hwk
          obtain ⟨b, off, rfl, hlt, hc⟩ := (HS.out.below j0.out.old).at_ (by omega)
          obtain ⟨c0, c1, c2, c3⟩ := hc k hkn
          clear hc
          obtain ⟨wao, hwao⟩ : ∃ wao, wao = wa k := ⟨_, rfl⟩
          obtain ⟨lk, hlk⟩ : ∃ lk, lk = ln k := ⟨_, rfl⟩
          rw [← hwao, ← hlk] at c1
          have hlk2 : lk ≤ 256 := by rw [hlk]; exact HLN.out k hkn
          have hmk := fun wx => run_make_room (P := Ybaf.prog) 34 9 (.string ⟨#[]⟩) 16 Ybaf.underlying34 info9 rfl .i64 .i64 lk (by omega) (by omega) wx
          have HWAO := hidE hwao
          have HLK := hidE hlk
          clear hwao hlk
          have hH3 : H + 3 ≤ wk.heap.size := j0.out.size
          obtain ⟨dk, hdk⟩ : ∃ dk, dk = depsOf n ln wt k := ⟨_, rfl⟩
          have hdkl : dk.length = lk := by rw [hdk, depsOf_len, HLK.out]
          have b0 := hidE (B3At.start (lk := lk) (dk := dk) (x0 := .bool (cu k)) (x1 := .slice wao lk (wc k)) (x2 := .string (ty k)) (x3 := .string (po k)) j0.out.row (k := k) (by simp))
          obtain ⟨wb, hwb⟩ : ∃ wb, wb = (wk.alloc (.cells #[.bool (cu k), .slice wao lk (wc k), .string (ty k), .string (po k)] 25)).alloc (.cells (madeCells #[.string ⟨#[]⟩] lk) 9) := ⟨_, rfl⟩
          rw [← hwb] at b0
          have hwbs : wb.heap.size = wk.heap.size + 2 := by rw [hwb]; simp
          have KB : Hid (Kept [] wk wb) := by rw [hwb]; exact ((Kept.refl _ wk).alloc _).alloc _
          have CR : Hid (wb.rowIs wk.heap.size 25 4 (f4 (.bool (cu k)) (.slice wao lk (wc k)) (.string (ty k)) (.string (po k)))) := by
            rw [hwb]
            exact (rowIs_of4 (heap_alloc_new wk _)).alloc _
          have HDK := hidE hdk
          clear hdk
          go_wp2_with fail
          rw [← hwb]
          clear hwb hmk c0 c1 c2 c3
          go_loopw [10, 67] (fun s10 s67 wx => ∃ (j : Nat) (v : Value), j ≤ lk ∧ s10 = .slice (some ⟨wk.heap.size + 1, 0, none⟩) j lk ∧ s67 = .int .i64 j ∧ Hid (B3At wb wx H wk.heap.size n k lk j (fun x => if x < k then dv x else .slice none 0 0) dk v)) (fun _ s67 _ => lk - (intOf s67).toNat)
          case atStart => exact ⟨0, _, by omega, rfl, rfl, b0⟩
          case round =>
            clear b0
            obtain ⟨j, v, hj, rfl, rfl, b0⟩ := hrel
            by_cases hjl : j < lk
            · have BX : Hid (Kept [H, wk.heap.size + 1] wk wr) := (KB.out.mono (by simp)).then b0.out.kept
              obtain ⟨bw, ow, hwa, hbw, hcw⟩ := HS.out.waits k hkn (by rw [← HLK.out]; omega)
              have hwe : wao = some ⟨bw, ow, none⟩ := by rw [HWAO.out]; exact hwa
              subst hwe
              obtain ⟨hcj, hle⟩ := hcw j (by rw [← HLK.out]; exact hjl)
              have hcx : wr.cell? ⟨bw, ow + j, none⟩ = some (.int .u8 (wt k j)) := by
                have h1 := j0.out.old.size
                have h2 := j0.out.le
                rw [BX.out.cell (Nat.lt_of_lt_of_le hbw h1) (by simp; omega), j0.out.old.cell hbw]
                exact hcj
              obtain ⟨y, hy⟩ : ∃ y, y = wt k j := ⟨_, rfl⟩
              rw [← hy] at hcx hle
              obtain ⟨d, hd⟩ : ∃ d, d = y % (n + 3) := ⟨_, rfl⟩
              have hd6 : d < 676 := by have := Nat.mod_lt y (show 0 < n + 3 by omega); omega
              have hdd : Hid (d = dk.getD j 0) := by rw [HDK.out, depsOf_get (by rw [← HLK.out]; exact hjl), hd, hy]; rfl
              have hmod : Int.tmod (y : Int) ((n : Int) + 3) = (d : Int) := by rw [hd]; exact (Int.ofNat_tmod y (n + 3)).symm
              have hck := b0.out.row.cell hkn
              rw [if_pos rfl] at hck
              clear hcj hcw hwa hy hd
              have hsx : wk.heap.size + 2 ≤ wr.heap.size := by have := b0.out.kept.size; omega
              obtain ⟨g, cap', w4, hap, hown, hgr, hbg, hglt, hwh⟩ := append_own (P := Ybaf.prog) 35 3 (.int .i64 0) 1 8 Ybaf.underlying35 info3 rfl (by omega) wr (wk.heap.size + 2) v j _ b0.out.own [.int .i64 d] rfl (by simp; rfl) (by omega) (by omega) hsx
              have HAP := hidE hap
              have HOWN := hidE hown
              have HGR := hidE hgr
              have r4 : w4.rowIs H 35 n (fun x => if x = k then v else (if x < k then dv x else .slice none 0 0)) := (b0.out.row.alloc _).of_block (hgr.block H (b0.out.row.alloc _).lt (fun e => by have := (b0.out.own.lt H e.symm).1; omega))
              obtain ⟨u4, hu4⟩ : ∃ u4, w4.cell? ⟨H, k, none⟩ = some u4 := ⟨_, r4.cell hkn⟩
              have hf4 : w4.frozen? ⟨H, k, none⟩ = false := r4.frozen _
              have hnm := name_any d (w4.setCell ⟨H, k, none⟩ (.slice (some ⟨g, 0, none⟩) (j + 1) cap')) hd6
              clear hap hown hgr r4
              go_wp2_with (first | (at_builtin; refine wpList_append_run _ rfl (.tmp 81) (.tmp 83) 35 rfl _ _ _ _ rfl rfl HAP.out ?_))
              refine hnm.mono ?_
              rintro e w6 ⟨rfl, hb6⟩
              have b1 := hidE (b0.out.step hwbs (by omega) hjl hdkl hdd.out HOWN.out HGR.out hbg hb6)
              have k4 : Kept v.ownBlock.toList wr w4 := ((Kept.refl _ wr).alloc _).grown HGR.out (fun x hx _ => by rw [hx]; simp)
              have k5 : Kept [H] w4 (w4.setCell ⟨H, k, none⟩ (.slice (some ⟨g, 0, none⟩) (j + 1) cap')) := (Kept.refl _ w4).setCell (fun _ => by simp) _
              have r6 : w6.rowIs (wk.heap.size + 1) 9 lk (fun y => .string (if y < j then nm (dk.getD y 0) else ⟨#[]⟩)) := (Below.kept hb6 []).row (k5.row (k4.row b0.out.wrow (fun hm => by have := (b0.out.own.lt (wk.heap.size + 1) (by simpa using hm)).1; omega)) (by simp; omega)) (by simp)
              obtain ⟨u6, hu6⟩ : ∃ u6, (w6.alloc (.cells #[.string (nm d)] 9)).cell? ⟨wk.heap.size + 1, j, none⟩ = some u6 := ⟨_, (r6.alloc _).cell hjl⟩
              have hf6 : (w6.alloc (.cells #[.string (nm d)] 9)).frozen? ⟨wk.heap.size + 1, j, none⟩ = false := (r6.alloc _).frozen _
              clear hnm hb6 k4 k5 r6
              go_wp2_with fail
              go_roundw
              case rel => exact ⟨j + 1, _, by omega, by simp, by go_num, b1⟩
              case measure => simp [intOf]; omega
            · have hje : j = lk := by omega
              subst hje
              have BX : Hid (Kept [H, wk.heap.size + 1] wk wr) := (KB.out.mono (by simp)).then b0.out.kept
              have RM : Hid (StrMap wr (H + 1) (named (List.range k) (resV cu ty po ws))) := BX.out.strMap j0.out.map (by simp; omega)
              have RT : Hid (wr.rowIs (H + 1 + 1) 33 4 (tmplF (H + 1) (.slice none 0 0))) := BX.out.row j0.out.tmpl (by simp; omega)
              have RC : Hid (wr.rowIs wk.heap.size 25 4 (f4 (.bool (cu k)) (.slice wao j (wc k)) (.string (ty k)) (.string (po k)))) := b0.out.kept.row CR.out (by simp; omega)
              have hset := set_res (B := wk.heap.size + 1) (cu := cu) (ty := ty) (po := po) (ws := ws) (lk := j) (k := k) (by omega)
              go_wp2_with fail
              obtain ⟨vals, hvals⟩ : ∃ vals : List Value, vals = [(.pointer (some ⟨H + 1 + 1, 0, none⟩)), (.pointer (some ⟨H + 1 + 1, 0, none⟩)), (.pointer (some ⟨H + 1 + 1, 1, none⟩)), (.map (some (H + 1))), (.int .i64 k), (.string (nm k)), (.pointer (some ⟨wk.heap.size, 2, none⟩)), (.string (ty k)), (.pointer (some ⟨wk.heap.size, 0, none⟩)), (.bool (cu k)), (.pointer (some ⟨wk.heap.size, 3, none⟩)), (.string (po k)), (.slice (some ⟨wk.heap.size + 1, 0, none⟩) j j), (.agg #[.string (ty k), .bool (cu k), .string (po k), .nilIface, .slice none 0 0, .slice (some ⟨wk.heap.size + 1, 0, none⟩) j j]), undef] := ⟨_, rfl⟩
              refine wp_region_inv (by kernel_rfl) (fun x => vals.getD x undef) (Reg23 wr (H + 1) (mapObj (named (List.range (k + 1)) (resV cu ty po (fun x => if x = k then (.slice (some ⟨wk.heap.size + 1, 0, none⟩) j j) else ws x))))) (by kernel_rfl) (by kernel_rfl) (Reg23.start _ _ _ _) ?_ ?_
              · intro listed a wq i2 o ho inv hw hs hpre hu
                subst hvals
                have hsz : listed.size = 15 := hs
                match i2, ho, hu with
                | 0, ho, hu =>
                  have e := Option.some.inj ho
                  subst e
                  have e7 : a.tmps.getD 7 undef = (.pointer (some ⟨H + 1 + 1, 0, none⟩)) := inv.far (s := 7) (by kernel_rfl)
                  exact wp_value (.pointer (some ⟨H + 1 + 1, 0, none⟩)) (by simp [execOp, Act.eval, go_sem, e7]) ⟨rfl, hw.keep (by omega) (by omega)⟩
                | 1, ho, hu =>
                  have e := Option.some.inj ho
                  subst e
                  have e92 : a.tmps.getD 92 undef = (.pointer (some ⟨H + 1 + 1, 0, none⟩)) := inv.now 92 0 rfl (hpre ⟨0, .data⟩ (by simp) rfl)
                  exact wp_value (.pointer (some ⟨H + 1 + 1, 0, none⟩)) (by simp [execOp, Act.eval, go_sem, e92]) ⟨rfl, hw.keep (by omega) (by omega)⟩
                | 2, ho, hu =>
                  have e := Option.some.inj ho
                  subst e
                  have e93 : a.tmps.getD 93 undef = (.pointer (some ⟨H + 1 + 1, 0, none⟩)) := inv.now 93 1 rfl (hpre ⟨1, .data⟩ (by simp) rfl)
                  exact wp_value (.pointer (some ⟨H + 1 + 1, 1, none⟩)) (by simp [execOp, Act.eval, go_sem, e93]) ⟨rfl, hw.keep (by omega) (by omega)⟩
                | 3, ho, hu =>
                  have e := Option.some.inj ho
                  subst e
                  have e94 : a.tmps.getD 94 undef = (.pointer (some ⟨H + 1 + 1, 1, none⟩)) := inv.now 94 2 rfl (hpre ⟨2, .data⟩ (by simp) rfl)
                  have hc : wq.cell? ⟨H + 1 + 1, 1, none⟩ = some (.map (some (H + 1))) := (hw.row RT.out (by omega)).cell (by omega)
                  exact wp_value (.map (some (H + 1))) (by simp [execOp, Act.eval, go_sem, e94, hc]) ⟨rfl, hw.keep (by omega) (by omega)⟩
                | 4, ho, hu =>
                  have e := Option.some.inj ho
                  subst e
                  have e8 : a.tmps.getD 8 undef = (.int .i64 k) := inv.far (s := 8) (by kernel_rfl)
                  exact wp_value (.int .i64 k) (by simp [execOp, Act.eval, go_sem, e8]) ⟨rfl, hw.keep (by omega) (by omega)⟩
                | 5, ho, hu =>
                  have e := Option.some.inj ho
                  subst e
                  have e96 : a.tmps.getD 96 undef = (.int .i64 k) := inv.now 96 4 rfl (hpre ⟨4, .data⟩ (by simp) rfl)
                  have n14 : listed.getD 14 false = false := by
                    cases e : listed.getD 14 false with
                    | false => rfl
                    | true => have h4 := hw.c14 e; rw [hu] at h4; cases h4
                  refine wp_enter (f := 4) (args := #[.int .i64 k]) (by simp [execOp, resolve, invoke, Act.eval, go_sem, e96]) ((name_any k wq (by omega)).mono ?_)
                  rintro e2 w9 ⟨rfl, hb9⟩
                  exact ⟨_, rfl, rfl, hw.call hsz n14 hb9⟩
                | 6, ho, hu =>
                  have e := Option.some.inj ho
                  subst e
                  have e9 : a.tmps.getD 9 undef = (.pointer (some ⟨wk.heap.size, 0, none⟩)) := inv.far (s := 9) (by kernel_rfl)
                  exact wp_value (.pointer (some ⟨wk.heap.size, 2, none⟩)) (by simp [execOp, Act.eval, go_sem, e9]) ⟨rfl, hw.keep (by omega) (by omega)⟩
                | 7, ho, hu =>
                  have e := Option.some.inj ho
                  subst e
                  have e98 : a.tmps.getD 98 undef = (.pointer (some ⟨wk.heap.size, 2, none⟩)) := inv.now 98 6 rfl (hpre ⟨6, .data⟩ (by simp) rfl)
                  have hc : wq.cell? ⟨wk.heap.size, 2, none⟩ = some (.string (ty k)) := (hw.row RC.out (by omega)).cell (by omega)
                  exact wp_value (.string (ty k)) (by simp [execOp, Act.eval, go_sem, e98, hc]) ⟨rfl, hw.keep (by omega) (by omega)⟩
                | 8, ho, hu =>
                  have e := Option.some.inj ho
                  subst e
                  have e9 : a.tmps.getD 9 undef = (.pointer (some ⟨wk.heap.size, 0, none⟩)) := inv.far (s := 9) (by kernel_rfl)
                  exact wp_value (.pointer (some ⟨wk.heap.size, 0, none⟩)) (by simp [execOp, Act.eval, go_sem, e9]) ⟨rfl, hw.keep (by omega) (by omega)⟩
                | 9, ho, hu =>
                  have e := Option.some.inj ho
                  subst e
                  have e100 : a.tmps.getD 100 undef = (.pointer (some ⟨wk.heap.size, 0, none⟩)) := inv.now 100 8 rfl (hpre ⟨8, .data⟩ (by simp) rfl)
                  have hc : wq.cell? ⟨wk.heap.size, 0, none⟩ = some (.bool (cu k)) := (hw.row RC.out (by omega)).cell (by omega)
                  exact wp_value (.bool (cu k)) (by simp [execOp, Act.eval, go_sem, e100, hc]) ⟨rfl, hw.keep (by omega) (by omega)⟩
                | 10, ho, hu =>
                  have e := Option.some.inj ho
                  subst e
                  have e9 : a.tmps.getD 9 undef = (.pointer (some ⟨wk.heap.size, 0, none⟩)) := inv.far (s := 9) (by kernel_rfl)
                  exact wp_value (.pointer (some ⟨wk.heap.size, 3, none⟩)) (by simp [execOp, Act.eval, go_sem, e9]) ⟨rfl, hw.keep (by omega) (by omega)⟩
                | 11, ho, hu =>
                  have e := Option.some.inj ho
                  subst e
                  have e102 : a.tmps.getD 102 undef = (.pointer (some ⟨wk.heap.size, 3, none⟩)) := inv.now 102 10 rfl (hpre ⟨10, .data⟩ (by simp) rfl)
                  have hc : wq.cell? ⟨wk.heap.size, 3, none⟩ = some (.string (po k)) := (hw.row RC.out (by omega)).cell (by omega)
                  exact wp_value (.string (po k)) (by simp [execOp, Act.eval, go_sem, e102, hc]) ⟨rfl, hw.keep (by omega) (by omega)⟩
                | 12, ho, hu =>
                  have e := Option.some.inj ho
                  subst e
                  have e10 : a.tmps.getD 10 undef = (.slice (some ⟨wk.heap.size + 1, 0, none⟩) j j) := inv.far (s := 10) (by kernel_rfl)
                  exact wp_value (.slice (some ⟨wk.heap.size + 1, 0, none⟩) j j) (by simp [execOp, Act.eval, go_sem, e10]) ⟨rfl, hw.keep (by omega) (by omega)⟩
                | 13, ho, hu =>
                  have e := Option.some.inj ho
                  subst e
                  have e99 : a.tmps.getD 99 undef = (.string (ty k)) := inv.now 99 7 rfl (hpre ⟨7, .data⟩ (by simp) rfl)
                  have e101 : a.tmps.getD 101 undef = (.bool (cu k)) := inv.now 101 9 rfl (hpre ⟨9, .data⟩ (by simp) rfl)
                  have e103 : a.tmps.getD 103 undef = (.string (po k)) := inv.now 103 11 rfl (hpre ⟨11, .data⟩ (by simp) rfl)
                  have e104 : a.tmps.getD 104 undef = (.slice (some ⟨wk.heap.size + 1, 0, none⟩) j j) := inv.now 104 12 rfl (hpre ⟨12, .data⟩ (by simp) rfl)
                  have f99 : a.tmps[99]?.getD undef = (.string (ty k)) := by rw [← Array.getD_eq_getD_getElem?]; exact e99
                  have f101 : a.tmps[101]?.getD undef = (.bool (cu k)) := by rw [← Array.getD_eq_getD_getElem?]; exact e101
                  have f103 : a.tmps[103]?.getD undef = (.string (po k)) := by rw [← Array.getD_eq_getD_getElem?]; exact e103
                  have f104 : a.tmps[104]?.getD undef = (.slice (some ⟨wk.heap.size + 1, 0, none⟩) j j) := by rw [← Array.getD_eq_getD_getElem?]; exact e104
                  exact wp_value (.agg #[.string (ty k), .bool (cu k), .string (po k), .nilIface, .slice none 0 0, .slice (some ⟨wk.heap.size + 1, 0, none⟩) j j]) (by simp [execOp, Act.eval, go_sem, f99, f101, f103, f104]) ⟨rfl, hw.keep (by omega) (by omega)⟩
                | 14, ho, hu =>
                  have e := Option.some.inj ho
                  subst e
                  have e95 : a.tmps.getD 95 undef = (.map (some (H + 1))) := inv.now 95 3 rfl (hpre ⟨3, .data⟩ (by simp) rfl)
                  have e97 : a.tmps.getD 97 undef = (.string (nm k)) := inv.now 97 5 rfl (hpre ⟨5, .data⟩ (by simp) rfl)
                  have e105 : a.tmps.getD 105 undef = (.agg #[.string (ty k), .bool (cu k), .string (po k), .nilIface, .slice none 0 0, .slice (some ⟨wk.heap.size + 1, 0, none⟩) j j]) := inv.now 105 13 rfl (hpre ⟨13, .data⟩ (by simp) rfl)
                  have hb := hw.before hu
                  have hm := run_mapUpdate_str (P := Ybaf.prog) wq 28 9 39 Ybaf.underlying28 Ybaf.underlying9 (H + 1) _ (RM.out.of_block (hb.block _ RM.out.lt)) (nm k) (.agg #[.string (ty k), .bool (cu k), .string (po k), .nilIface, .slice none 0 0, .slice (some ⟨wk.heap.size + 1, 0, none⟩) j j])
                  rw [hset] at hm
                  have h5 := hpre ⟨5, .data⟩ (by simp) rfl
                  exact wp_skip (by simp [execOp, Act.eval, go_sem, e95, e97, e105, hm]) ⟨rfl, hw.put hsz hu h5⟩
                | x + 15, ho, _ => exact absurd (Array.getElem?_eq_some_iff.1 ho).1 (by simp)
              · intro listed wq hall hw
                obtain ⟨w9, hb9, hwq⟩ := hw.after (hall 14 (by decide))
                subst hvals
                have j1 := hidE (j0.out.step (by omega) (by omega) KB.out b0.out hwbs (by rw [hdkl]) HDK.out hb9)
                rw [← hwq] at j1
                clear hwq hw hset
                simp only [putAll, Act.put]
                go_wp2_with fail
                go_roundw
                case rel => exact ⟨k + 1, _, _, by omega, by go_num, j1⟩
                case measure => simp [intOf]; omega
        · obtain ⟨wk, hwk⟩ : ∃ wk, wk = wr := ⟨_, rfl⟩
          subst hwk
          have hke : k = n := by omega
          subst hke
          have hmk1 := fun wx => run_make_row' (P := Ybaf.prog) 40 4 (.bool false) 1 Ybaf.underlying40 info4 rfl .i64 .i64 k (by omega) (by omega) wx
          have hmk2 := fun wx => run_make_room (P := Ybaf.prog) 35 3 (.int .i64 0) 8 Ybaf.underlying35 info3 rfl .i64 .i64 k (by omega) (by omega) wx
          have c0 := hidE (C4At.start (wr := wk) (n := k) (depsOf k ln wt))
          have hH3 : H + 3 ≤ wk.heap.size := j0.out.size
          have KC : Hid (Kept [] wk ((wk.alloc (.cells (madeCells #[.bool false] k) 4)).alloc (.cells (madeCells #[.int .i64 0] k) 3))) := ((Kept.refl _ wk).alloc _).alloc _
          go_wp2_with fail
          clear hmk1 hmk2
          generalize (wk.alloc (.cells (madeCells #[.bool false] k) 4)).alloc (.cells (madeCells #[.int .i64 0] k) 3) = wc0 at *
          go_loopw [15] (fun s15 wr => ∃ pl : List Nat, pl.length ≤ k ∧ s15 = .slice (some ⟨wk.heap.size + 1, 0, none⟩) pl.length k ∧ Hid (C4At wc0 wr wk.heap.size k pl (depsOf k ln wt))) (fun s15 _ => k - slen s15)
          case atStart => exact ⟨[], by simp, rfl, c0⟩
          case round =>
            clear c0
            obtain ⟨pl, hple, rfl, c0⟩ := hrel
            have KX : Hid (Kept [wk.heap.size, wk.heap.size + 1] wk wr) := (KC.out.mono (by simp)).then c0.out.kept
            have DR : Hid (wr.rowIs H 35 k (fun x => if x < k then dv x else .slice none 0 0)) := KX.out.row j0.out.row (by simp; omega)
            have DI : Hid (∀ x, x < k → IsRow wr [H, H + 1, H + 2] (dv x) (depsOf k ln wt x) enI) := fun x hx => (j0.out.ints x hx).kept KX.out (by simp)
            have OX : Hid (Below w.heap.size w wr) := j0.out.old.trans (KX.out.below j0.out.old.size (by have := j0.out.old.size; simp; omega))
            have TM : Hid (Tmpl wr (H + 1 + 1) (H + 1) k (depsOf k ln wt) cu ty po ws) := {
              tmpl := KX.out.row j0.out.tmpl (by simp; omega)
              map := KX.out.strMap j0.out.map (by simp; omega)
              names := fun x hx => ((j0.out.names x hx).kept KX.out (by simp)).sub (fun y hy _ => by simp at hy ⊢; omega)
              hn := hbig
              ne := by omega
              dlow := fun x _ d hd => by have := depsOf_lt d hd; omega
              dlen := fun x hx => by rw [depsOf_len]; exact HLN.out x hx }
            by_cases hplt : pl.length < k
            · go_wp2_with fail
              go_loop [16, 17] (fun s16 s17 => ∃ i : Nat, i ≤ k ∧ s17 = .int .i64 i ∧ ((s16 = .int .i64 (-1) ∧ Hid (∀ j, j < i → ready (depsOf k ln wt) k pl j = false)) ∨ (∃ m : Nat, s16 = .int .i64 m ∧ m < k ∧ Hid (nextFree (depsOf k ln wt) k pl = some m)))) (fun _ s17 => k - (intOf s17).toNat)
              case atStart => exact ⟨0, by omega, rfl, .inl ⟨rfl, fun j hj => absurd hj (by omega)⟩⟩
              case round =>
                obtain ⟨i, hi, rfl, hcase⟩ := hrel
                rcases hcase with ⟨rfl, hnr⟩ | ⟨m, rfl, hmk, hnf⟩
                · by_cases hik : i < k
                  · have hpc := c0.out.placed.cell hik
                    by_cases hip : i ∈ pl
                    · rw [decide_eq_true hip] at hpc
                      go_wp2_with fail
                      go_round
                      case rel => exact ⟨i + 1, by omega, by go_num, .inl ⟨rfl, fun j hj => by
                        rcases Nat.lt_or_ge j i with h | h
                        · exact hnr.out j h
                        · have : j = i := by omega
                          subst this
                          cases hb : ready (depsOf k ln wt) k pl j with
                          | false => rfl
                          | true => exact absurd hip (ready_iff.1 hb).1⟩⟩
                      case measure => simp [intOf]; omega
                    · rw [decide_eq_false hip] at hpc
                      obtain ⟨av, cv, hdv, hcv⟩ := DI.out i hik
                      have hdc : wr.cell? ⟨H, i, none⟩ = some (.slice av (depsOf k ln wt i).length cv) := by
                        rw [DR.out.cell hik, if_pos hik, hdv]
                      have HCV := hidE hcv
                      have hdl : (depsOf k ln wt i).length ≤ 256 := by rw [depsOf_len]; exact HLN.out i hik
                      obtain ⟨ds, hds⟩ : ∃ ds, ds = depsOf k ln wt i := ⟨_, rfl⟩
                      rw [← hds] at hdc hdl
                      have HDS := hidE hds
                      have HCV2 : Hid (ds ≠ [] → ∃ b off, av = some ⟨b, off, none⟩ ∧ ∀ j, j < ds.length → wr.cell? ⟨b, off + j, none⟩ = some (.int .i64 (ds.getD j 0 : Nat))) := by
                        rw [hds]
                        exact fun hne => by
                          obtain ⟨b, off, h1, _, _, h2⟩ := HCV.out hne
                          exact ⟨b, off, h1, h2⟩
                      clear hcv hdv hds
                      go_wp2_with fail
                      go_loop [18, 133] (fun s18 s133 => s18 = .bool true ∧ ∃ j : Nat, j ≤ ds.length ∧ s133 = .int .i64 j ∧ Hid (∀ m, m < j → k ≤ ds.getD m 0 ∨ ds.getD m 0 ∈ pl)) (fun _ s133 => ds.length - (intOf s133).toNat)
                      case atStart => exact ⟨rfl, 0, by omega, rfl, fun m hm => absurd hm (by omega)⟩
                      case round =>
                        obtain ⟨rfl, j, hj, rfl, hok⟩ := hrel
                        by_cases hjl : j < ds.length
                        · obtain ⟨bv, ov, hav, hcs⟩ := HCV2.out (fun h => by rw [h] at hjl; simp at hjl)
                          subst hav
                          have hcd := hcs j hjl
                          have HD : Hid (∀ m, m < j + 1 → k ≤ ds.getD m 0 ∨ ds.getD m 0 ∈ pl) ∨ ¬ (k ≤ ds.getD j 0 ∨ ds.getD j 0 ∈ pl) := by
                            by_cases h : k ≤ ds.getD j 0 ∨ ds.getD j 0 ∈ pl
                            · exact .inl (hidE (fun m hm => by
                                rcases Nat.lt_or_ge m j with h2 | h2
                                · exact hok.out m h2
                                · have : m = j := by omega
                                  rw [this]; exact h))
                            · exact .inr h
                          have hdm : ds.getD j 0 ∈ ds := by simp [List.getElem?_eq_getElem hjl]
                          generalize ds.getD j 0 = d at *
                          clear hcs
                          by_cases hdk : d < k
                          · have hpd := c0.out.placed.cell hdk
                            by_cases hdp : d ∈ pl
                            · rw [decide_eq_true hdp] at hpd
                              have HD2 := HD.resolve_right (fun h => h (.inr hdp))
                              clear HD
                              go_wp2_with fail
                              go_round
                              case rel => exact ⟨rfl, j + 1, by omega, by go_num, HD2⟩
                              case measure => simp [intOf]; omega
                            · rw [decide_eq_false hdp] at hpd
                              have hnri : Hid (∀ j, j < i + 1 → ready (depsOf k ln wt) k pl j = false) := fun x hx => by
                                rcases Nat.lt_or_ge x i with h | h
                                · exact hnr.out x h
                                · have : x = i := by omega
                                  subst this
                                  cases hb : ready (depsOf k ln wt) k pl x with
                                  | false => rfl
                                  | true =>
                                    have h2 := minW_none.1 (ready_iff.1 hb).2 d (by rw [← HDS.out]; exact hdm)
                                    rcases h2 with h2 | h2
                                    · omega
                                    · exact absurd h2 hdp
                              clear HD
                              go_wp2_with fail
                              go_round
                              case rel => exact ⟨i + 1, by omega, by go_num, .inl ⟨rfl, hnri⟩⟩
                              case measure => simp [intOf]; omega
                          · have HD2 := HD.resolve_right (fun h => h (.inl (by omega)))
                            clear HD
                            go_wp2_with fail
                            go_round
                            case rel => exact ⟨rfl, j + 1, by omega, by go_num, HD2⟩
                            case measure => simp [intOf]; omega
                        · have hnf : Hid (nextFree (depsOf k ln wt) k pl = some i) := nextFree_found hik (ready_iff.2 ⟨hip, minW_none.2 (fun d hd => by
                            rw [← HDS.out] at hd
                            obtain ⟨m, hm, e⟩ := List.getElem_of_mem hd
                            have := hok.out m (by omega)
                            rw [List.getD_eq_getElem?_getD, List.getElem?_eq_getElem hm, Option.getD_some, e] at this
                            exact this)⟩) hnr.out
                          go_wp2_with fail
                          go_round
                          case rel => exact ⟨i + 1, by omega, by go_num, .inr ⟨i, rfl, hik, hnf⟩⟩
                          case measure => simp [intOf]; omega
                  · have hnf : Hid (nextFree (depsOf k ln wt) k pl = none) := List.find?_eq_none.2 (fun x hx => by
                      have := List.mem_range.1 hx
                      rw [hnr.out x (by omega)]
                      simp)
                    have hord := c0.out.road.stuck hnf.out
                    have hres := res_any F a s (H + 1 + 1) (H + 1) k (depsOf k ln wt) cu ty po ws (fun _ _ => false) wr (by rw [OX.out.tape]; exact HF.out) (HSE.out.below OX.out) TM.out (fun h => absurd h (by rw [hord]; omega))
                    have HORD := hidE hord
                    clear hord
                    go_wp2_with fail
                    refine hres.mono ?_
                    rintro e w2 hend
                    rcases hend with ⟨_, hb2, kk, rfl, hkk, hck⟩ | ⟨_, hfull, _⟩
                    · have B2 : Hid (Below w.heap.size w w2) := OX.out.trans ⟨hb2.os, hb2.tape, hb2.output, hb2.size, fun x hx => hb2.block x (Nat.lt_of_lt_of_le hx OX.out.size)⟩
                      have G2 : w2.cell? ⟨0, 0, none⟩ = some (.iface 90 (.pointer (some a))) := (HSE.out.below B2.out).g
                      have T2 : w2.cell? ⟨H + 1 + 1, 2, none⟩ = some (.slice none 0 0) := (TM.out.tmpl.of_block (hb2.block _ TM.out.tmpl.lt)).cell (by omega)
                      have hisw := is_wrap_same kk 0 a w2 hck
                      clear hres hb2 hck
                      go_wp2_with fail
                      refine hisw.mono ?_
                      rintro e w3 ⟨rfl, rfl⟩
                      clear hisw
                      have heq := eqlNil30 w3
                      go_wp2_with fail
                      go_ret
                      exact ⟨rfl, B2.out⟩
                    · exfalso
                      rw [HORD.out] at hfull
                      omega
                · obtain ⟨u1, hu1⟩ : ∃ u1, wr.cell? ⟨wk.heap.size, m, none⟩ = some u1 := ⟨_, c0.out.placed.cell hmk⟩
                  have hf1 : wr.frozen? ⟨wk.heap.size, m, none⟩ = false := c0.out.placed.frozen _
                  have r2 := (c0.out.order.setOther (a := ⟨wk.heap.size, m, none⟩) (by show wk.heap.size + 1 ≠ wk.heap.size; omega) (.bool true)).alloc (.cells #[.int .i64 (m : Int)] 3)
                  obtain ⟨u2, hu2⟩ : ∃ u2, ((wr.setCell ⟨wk.heap.size, m, none⟩ (.bool true)).alloc (.cells #[.int .i64 (m : Int)] 3)).cell? ⟨wk.heap.size + 1, pl.length, none⟩ = some u2 := ⟨_, r2.cell hplt⟩
                  have hf2 : ((wr.setCell ⟨wk.heap.size, m, none⟩ (.bool true)).alloc (.cells #[.int .i64 (m : Int)] 3)).frozen? ⟨wk.heap.size + 1, pl.length, none⟩ = false := r2.frozen _
                  have c1 := hidE (c0.out.step hplt hnf.out)
                  clear r2
                  have hik2 : i < k ∨ i = k := by omega
                  rcases hik2 with hik | hik
                  · go_wp2_with fail
                    go_roundw
                    case rel => exact ⟨pl ++ [m], by simp; omega, by simp, c1⟩
                    case measure => simp [slen]; omega
                  · subst hik
                    go_wp2_with fail
                    go_roundw
                    case rel => exact ⟨pl ++ [m], by simp; omega, by simp, c1⟩
                    case measure => simp [slen]; omega
            · have hfull0 := c0.out.road.full hplt
              have hpe : pl.length = k := by omega
              obtain ⟨N, hN⟩ := needs_all cu c0.out.road
              have hN2 : ∀ x, x < k → ∀ j, N x j = row cu k N (depsOf k ln wt x) j := fun x hx j => by
                obtain ⟨m, hm, e⟩ := List.getElem_of_mem (seen_full c0.out.road.nodup c0.out.road.low (by omega) x hx)
                have := hN m hm j
                rwa [e] at this
              have hres := res_any F a s (H + 1 + 1) (H + 1) k (depsOf k ln wt) cu ty po ws N wr (by rw [OX.out.tape]; exact HF.out) (HSE.out.below OX.out) TM.out (fun _ => hN2)
              have HN := hidE hN2
              have HORD := hidE hfull0
              have HPE := hidE hpe
              clear hN hN2 hfull0 hpe
              go_wp2_with fail
              refine hres.mono ?_
              rintro e w2 hend
              rcases hend with ⟨hlt, _⟩ | ⟨_, _, hk2, rfl, v, htv, hrow⟩
              · exfalso
                rw [HORD.out, HPE.out] at hlt
                omega
              · have HK2 := hidE hk2
                have HTV := hidE htv
                have HROW := hidE hrow
                clear hres hk2 htv hrow
                obtain ⟨we, hwe⟩ : ∃ we, we = wr := ⟨_, rfl⟩
                subst hwe
                rw [HORD.out] at HROW
                obtain ⟨vo, vc, vs, hv, hvs, hvc⟩ := res_open HROW.out HPE.out
                subst hv
                have HVS := hidE hvs
                have HVC := hidE hvc
                have ho2 : w2.cell? ⟨H + 1 + 1, 2, none⟩ = some (.slice vo k vc) := HTV.out.cell (by omega)
                have hmk := fun wx => run_make_row' (P := Ybaf.prog) 45 40 (.slice none 0 0) 24 Ybaf.underlying45 info40 rfl .i64 .i64 k (by omega) (by omega) wx
                have e0 := hidE (E7.start (w2 := w2) (k := k) pl N (fun _ => 0))
                have KQ : Hid (Kept [] w2 (w2.alloc (.cells (madeCells #[.slice none 0 0] k) 40))) := (Kept.refl _ w2).alloc _
                have hQs : (w2.alloc (.cells (madeCells #[.slice none 0 0] k) 40)).heap.size = w2.heap.size + 1 := Array.size_push _
                have hP2 : wk.heap.size + 2 ≤ we.heap.size := by
                  have h1 := c0.out.placed.lt
                  have h2 := c0.out.order.lt
                  omega
                have hz2 : we.heap.size ≤ w2.heap.size := HK2.out.size
                clear hvs hvc
                rw [HPE.out]
                go_wp2_with fail
                clear hmk ho2
                generalize w2.alloc (.cells (madeCells #[.slice none 0 0] k) 40) = wq at *
                go_loopw [190] (fun s190 wr => ∃ (m : Nat) (bx : Nat → Nat), m ≤ k ∧ s190 = .int .i64 m ∧ Hid (E7 wq wr w2.heap.size k m pl N bx)) (fun s190 _ => k - (intOf s190).toNat)
                case atStart => exact ⟨0, _, by omega, rfl, e0⟩
                case round =>
                  clear e0
                  obtain ⟨m, bx, hm, rfl, e0⟩ := hrel
                  obtain ⟨wm, hwm⟩ : ∃ wm, wm = wr := ⟨_, rfl⟩
                  subst hwm
                  have KM : Hid (Kept [H + 1 + 1, w2.heap.size] we wm) := ((HK2.out.mono (by simp)).then (KQ.out.mono (by simp))).then (e0.out.kept.mono (by simp))
                  have OM : Hid (Below w.heap.size w wm) := OX.out.trans (KM.out.below OX.out.size (by have h1 := j0.out.le; have h2 := OX.out.size; simp; omega))
                  by_cases hmk : m < k
                  · obtain ⟨i, hid⟩ : ∃ i, i = pl.getD m 0 := ⟨_, rfl⟩
                    have hml : m < pl.length := by rw [HPE.out]; exact hmk
                    have hi1 : pl[m] = i := by rw [hid]; simp [List.getElem?_eq_getElem hml]
                    have hi2 : pl[m]? = some i := by rw [List.getElem?_eq_getElem hml, hi1]
                    have hipl : i ∈ pl := by rw [← hi1]; exact List.getElem_mem hml
                    have hin : i < k := c0.out.road.low i hipl
                    have hoc : wm.cell? ⟨wk.heap.size + 1, m, none⟩ = some (.int .i64 (i : Int)) := by
                      rw [(KM.out.row c0.out.order (by simp; omega)).cell hmk, if_pos hml, ← hid]
                    obtain ⟨av, cv, hdv, hcv⟩ := (DI.out i hin).kept KM.out (by simp; omega)
                    have hdc : (wm.alloc (.cells (madeCells #[.bool false] k) 4)).cell? ⟨H, i, none⟩ = some (.slice av (depsOf k ln wt i).length cv) := by
                      rw [((KM.out.row DR.out (by simp; omega)).alloc _).cell hin, if_pos hin, hdv]
                    have hdl : (depsOf k ln wt i).length ≤ 256 := by rw [depsOf_len]; exact HLN.out i hin
                    obtain ⟨ds, hds⟩ : ∃ ds, ds = depsOf k ln wt i := ⟨_, rfl⟩
                    rw [← hds] at hdc hdl hcv
                    have HDS := hidE hds
                    have HCV := hidE hcv
                    have HI1 := hidE hi1
                    have HI2 := hidE hi2
                    have hms := fun wx => run_make_row' (P := Ybaf.prog) 40 4 (.bool false) 1 Ybaf.underlying40 info4 rfl .i64 .i64 k (by omega) (by omega) wx
                    have s0 : Hid ((wm.alloc (.cells (madeCells #[.bool false] k) 4)).rowIs wm.heap.size 4 k (fun y => .bool (row cu k N (ds.take 0) y))) := (World.rowIs_made wm (.bool false) k 4).congr (fun y _ => by simp [row])
                    have KS : Hid (Kept [] wm (wm.alloc (.cells (madeCells #[.bool false] k) 4))) := (Kept.refl _ wm).alloc _
                    have hSs : (wm.alloc (.cells (madeCells #[.bool false] k) 4)).heap.size = wm.heap.size + 1 := Array.size_push _
                    have hzm : w2.heap.size < wm.heap.size := by have := e0.out.kept.size; omega
                    clear hid hi1 hi2 hdv hcv hds
                    go_wp2_with fail
                    clear hms hdc hoc
                    generalize wm.alloc (.cells (madeCells #[.bool false] k) 4) = wS at *
                    go_loopw [202] (fun s202 wx => ∃ j : Nat, j ≤ ds.length ∧ s202 = .int .i64 j ∧ Hid (Kept [wm.heap.size] wS wx) ∧ Hid (wx.rowIs wm.heap.size 4 k (fun y => .bool (row cu k N (ds.take j) y)))) (fun s202 _ => ds.length - (intOf s202).toNat)
                    case atStart => exact ⟨0, by omega, rfl, Kept.refl _ _, s0⟩
                    case round =>
                      clear s0
                      obtain ⟨j, hj, rfl, ks, s0⟩ := hrel
                      have KW : Hid (Kept [] wm wr) := KS.out.trans ks.out (by simp) (fun x hx hlt => by simp at hx; omega)
                      by_cases hjl : j < ds.length
                      · obtain ⟨bv, ov, hav, hbv, _, hcs⟩ := HCV.out (fun h => by rw [h] at hjl; simp at hjl)
                        subst hav
                        obtain ⟨d, hd⟩ : ∃ d, d = ds.getD j 0 := ⟨_, rfl⟩
                        have hcd : wr.cell? ⟨bv, ov + j, none⟩ = some (.int .i64 (d : Int)) := by
                          rw [KW.out.cell hbv (by simp), hcs j hjl, ← hd]; rfl
                        have hdm : d ∈ ds := by rw [hd]; simp [List.getElem?_eq_getElem hjl]
                        have htk : Hid (ds.take (j + 1) = ds.take j ++ [d]) := by
                          refine hidE ?_
                          rw [List.take_add_one, List.getElem?_eq_getElem hjl, hd, List.getD_eq_getElem?_getD, List.getElem?_eq_getElem hjl]; rfl
                        clear hcs hd
                        by_cases hdk : d < k
                        · obtain ⟨b, off, rfl, hlt, hc⟩ := HS.out.at_ (by omega)
                          have hb0 : wr.cell? ⟨b, off + d * 4, none⟩ = some (.bool (cu d)) := by
                            rw [KW.out.cell (Nat.lt_of_lt_of_le hlt OM.out.size) (by simp), OM.out.cell hlt]
                            exact (hc d hdk).1
                          clear hc
                          cases hcu : cu d with
                          | true =>
                            rw [hcu] at hb0
                            have HCU := hidE hcu
                            obtain ⟨u1, hu1⟩ : ∃ u1, wr.cell? ⟨wm.heap.size, d, none⟩ = some u1 := ⟨_, s0.out.cell hdk⟩
                            have hf1 : wr.frozen? ⟨wm.heap.size, d, none⟩ = false := s0.out.frozen _
                            clear hcu
                            go_wp2_with fail
                            go_roundw
                            case rel => exact ⟨j + 1, by omega, by go_num, ks.out.setCell (fun _ => by simp) _, (s0.out.set d _).congr (fun y _ => by
                              rw [htk.out, row_snoc, HCU.out]
                              by_cases e : y = d
                              · subst e; simp [hdk]
                              · simp [hdk, e])⟩
                            case measure => simp [intOf]; omega
                          | false =>
                            rw [hcu] at hb0
                            have HCU := hidE hcu
                            clear hcu
                            have hdt : d ∈ pl.take m := c0.out.road.after m hml d (by rw [HI1.out, ← HDS.out]; exact hdm) hdk
                            have HSD := hidE (e0.out.sets d hdt)
                            have hQd : Hid (wm.cell? ⟨w2.heap.size, d, none⟩ = some (.slice (some ⟨bx d, 0, none⟩) k k)) := by
                              refine hidE ?_
                              rw [e0.out.row.cell hdk, if_pos hdt]
                            have hbd : bx d < wm.heap.size := HSD.out.2.lt
                            have s1 : Hid (wr.rowIs wm.heap.size 4 k (fun y => .bool (row cu k N (ds.take j) y || (decide (y < 0) && N d y)))) := s0.out.congr (fun y _ => by simp)
                            go_wp2_with fail
                            go_loopw [28] (fun s28 wx => ∃ x : Nat, x ≤ k ∧ s28 = .int .i64 x ∧ Hid (Kept [wm.heap.size] wS wx) ∧ Hid (wx.rowIs wm.heap.size 4 k (fun y => .bool (row cu k N (ds.take j) y || (decide (y < x) && N d y))))) (fun s28 _ => k - (intOf s28).toNat)
                            case atStart => exact ⟨0, by omega, rfl, ks, s1⟩
                            case round =>
                              clear s1 ks s0 KW hcd hb0
                              obtain ⟨x, hx, rfl, ks, s0⟩ := hrel
                              have KW : Hid (Kept [] wm wr) := KS.out.trans ks.out (by simp) (fun x hx hlt => by simp at hx; omega)
                              by_cases hxk : x < k
                              · have hcq : wr.cell? ⟨w2.heap.size, d, none⟩ = some (.slice (some ⟨bx d, 0, none⟩) k k) := (KW.out.cell hzm (by simp)).trans hQd.out
                                have hcx : wr.cell? ⟨bx d, x, none⟩ = some (.bool (N d x)) := (KW.out.cell hbd (by simp)).trans (HSD.out.2.cell hxk)
                                cases hnx : N d x with
                                | true =>
                                  rw [hnx] at hcx
                                  have HNX := hidE hnx
                                  obtain ⟨u1, hu1⟩ : ∃ u1, wr.cell? ⟨wm.heap.size, x, none⟩ = some u1 := ⟨_, s0.out.cell hxk⟩
                                  have hf1 : wr.frozen? ⟨wm.heap.size, x, none⟩ = false := s0.out.frozen _
                                  clear hnx
                                  go_wp2_with fail
                                  go_roundw
                                  case rel => exact ⟨x + 1, by omega, by go_num, ks.out.setCell (fun _ => by simp) _, (s0.out.set x _).congr (fun y _ => by
                                    by_cases e : y = x
                                    · subst e; simp [HNX.out]
                                    · rw [if_neg e, show decide (y < x + 1) = decide (y < x) from by congr 1; apply propext; omega])⟩
                                  case measure => simp [intOf]; omega
                                | false =>
                                  rw [hnx] at hcx
                                  have HNX := hidE hnx
                                  clear hnx
                                  go_wp2_with fail
                                  go_roundw
                                  case rel => exact ⟨x + 1, by omega, by go_num, ks, s0.out.congr (fun y _ => by
                                    by_cases e : y = x
                                    · subst e; simp [HNX.out]
                                    · rw [show decide (y < x + 1) = decide (y < x) from by congr 1; apply propext; omega])⟩
                                  case measure => simp [intOf]; omega
                              · have hxe : x = k := by omega
                                subst hxe
                                go_wp2_with fail
                                go_roundw
                                case rel => exact ⟨j + 1, by omega, by go_num, ks, s0.out.congr (fun y hy => by
                                  rw [htk.out, row_snoc, HCU.out]
                                  simp [hdk, hy])⟩
                                case measure => simp [intOf]; omega
                        · go_wp2_with fail
                          go_roundw
                          case rel => exact ⟨j + 1, by omega, by go_num, ks, s0.out.congr (fun y _ => by
                            rw [htk.out, row_snoc]
                            simp [hdk])⟩
                          case measure => simp [intOf]; omega
                      · have hje : j = ds.length := by omega
                        subst hje
                        have s1 : Hid (wr.rowIs wm.heap.size 4 k (fun y => .bool (N i y))) := s0.out.congr (fun y _ => by rw [List.take_length, HDS.out, ← HN.out i hin y])
                        clear s0
                        have rQ := KW.out.row e0.out.row (by simp)
                        obtain ⟨uq, huq⟩ : ∃ uq, wr.cell? ⟨w2.heap.size, i, none⟩ = some uq := ⟨_, rQ.cell hin⟩
                        have hfq : wr.frozen? ⟨w2.heap.size, i, none⟩ = false := rQ.frozen _
                        obtain ⟨g, hvo, hg1, hg2, hgc⟩ := HVC.out (by omega)
                        subst hvo
                        obtain ⟨g0, g1, g2, g3, g4⟩ := hgc m i HI2.out
                        obtain ⟨ad, cd, hvi, hdep⟩ := HVS.out i hipl
                        rw [hvi] at g3
                        obtain ⟨ll, hll⟩ : ∃ ll, ll = (lst k (N i)).length := ⟨_, rfl⟩
                        rw [← hll] at g3
                        have HLL := hidE hll
                        have HDEP := hidE hdep
                        have K25 : Hid (Kept [] w2 wr) := (KQ.out.trans (e0.out.kept) (by simp) (fun x hx hlt => by simp at hx; omega)).then KW.out
                        obtain ⟨w5, hw5⟩ : ∃ w5, w5 = wr.setCell ⟨w2.heap.size, i, none⟩ (.slice (some ⟨wm.heap.size, 0, none⟩) k k) := ⟨_, rfl⟩
                        have K5 : Hid (Kept [] w2 w5) := by
                          rw [hw5]
                          exact K25.out.setCell (fun h => absurd h (by show ¬ w2.heap.size < w2.heap.size; omega)) _
                        have KE : Hid (Kept [w2.heap.size] wm w5) := by
                          rw [hw5]
                          exact (KW.out.mono (by simp)).setCell (fun _ => by simp) _
                        have z5 : w5.heap.size = wr.heap.size := by rw [hw5]; simp
                        have c5t : w5.cell? ⟨H + 1 + 1, 2, none⟩ = some (.slice (some ⟨g, 0, none⟩) k vc) := (K5.out.row HTV.out (by simp)).cell (by omega)
                        have d0 : w5.cell? ⟨g, m * 5, none⟩ = some (.string (nm i)) := (K5.out.cell hg1 (by simp)).trans g0
                        have d1 : w5.cell? ⟨g, m * 5 + 1, none⟩ = some (.string (ty i)) := (K5.out.cell hg1 (by simp)).trans g1
                        have d2 : w5.cell? ⟨g, m * 5 + 2, none⟩ = some (.bool (cu i)) := (K5.out.cell hg1 (by simp)).trans g2
                        have d3 : w5.cell? ⟨g, m * 5 + 3, none⟩ = some (.slice ad ll cd) := (K5.out.cell hg1 (by simp)).trans g3
                        have d4 : w5.cell? ⟨g, m * 5 + 4, none⟩ = some (.string (po i)) := (K5.out.cell hg1 (by simp)).trans g4
                        have HW5 := hidE hw5
                        clear g0 g1 g2 g3 g4 hgc hvi hdep hll rQ
                        go_upto_region 68 with fail
                        rw [← hw5]
                        clear hw5 huq hfq
                        obtain ⟨b, off, rfl, hlt, hc⟩ := HS.out.at_ (by omega)
                        obtain ⟨w6, hw6⟩ : ∃ w6, w6 = w5.alloc (.cells #[.string (nm i), .string (ty i), .bool (cu i), .slice ad ll cd, .string (po i)] 47) := ⟨_, rfl⟩
                        have K6 : Hid (Kept [] w5 w6) := by rw [hw6]; exact (Kept.refl _ _).alloc _
                        have F6 : Hid (F69 w6 wr.heap.size b off i (nm i) (ty i) (po i) (cu i) (.slice ad ll cd)) := by
                          have hn6 := World.news_of_block (show w6.heap[wr.heap.size]? = _ from by rw [hw6, ← z5]; exact heap_alloc_new w5 _)
                          have hold : ∀ q, w.cell? ⟨b, q, none⟩ = w6.cell? ⟨b, q, none⟩ := fun q => by
                            have hbm : b < wm.heap.size := Nat.lt_of_lt_of_le hlt OM.out.size
                            have hbw : b ≠ w2.heap.size := by have h1 := OX.out.size; omega
                            have h1 := KE.out.cell (p := ⟨b, q, none⟩) hbm (by simpa using hbw)
                            have h2 := K6.out.cell (p := ⟨b, q, none⟩) (Nat.lt_of_lt_of_le hbm KE.out.size) (by simp)
                            rw [h2, h1, OM.out.cell hlt]
                          obtain ⟨q0, q1, q2, q3⟩ := hc i hin
                          rw [hold] at q0 q2 q3
                          exact ⟨hn6 0 _ rfl, hn6 1 _ rfl, hn6 2 _ rfl, hn6 3 _ rfl, hn6 4 _ rfl, q0, q2, q3⟩
                        clear hc
                        go_upto_region 69 with fail
                        rw [← hw6]
                        clear hw6 d0 d1 d2 d3 d4 c5t
                        generalize hR0 : wr.heap.size = R0 at *
                        have HR0 := hidE hR0
                        clear hR0
                        have hiI : (i : Int) < (k : Int) := by omega
                        obtain ⟨vals, hvals⟩ : ∃ vals : List Value, vals = [(.pointer (some ⟨R0, 0, none⟩)), (.string (nm i)), (.int .i64 (i : Int)), (.string (nm i)), (.bool false), (.bool false), (.pointer (some ⟨R0, 1, none⟩)), (.string (ty i)), (.slice (some ⟨b, off, none⟩) k cap), (.int .i64 (i : Int)), (.pointer (some ⟨b, off + i * 4, none⟩)), (.pointer (some ⟨b, off + i * 4 + 2, none⟩)), (.string (ty i)), (.bool false), (.bool false), (.bool false), (.pointer (some ⟨R0, 2, none⟩)), (.bool (cu i)), (.slice (some ⟨b, off, none⟩) k cap), (.int .i64 (i : Int)), (.pointer (some ⟨b, off + i * 4, none⟩)), (.pointer (some ⟨b, off + i * 4, none⟩)), (.bool (cu i)), (.bool false), (.bool false), (.bool false), (.pointer (some ⟨R0, 4, none⟩)), (.string (po i)), (.slice (some ⟨b, off, none⟩) k cap), (.int .i64 (i : Int)), (.pointer (some ⟨b, off + i * 4, none⟩)), (.pointer (some ⟨b, off + i * 4 + 3, none⟩)), (.string (po i)), (.bool false), (.bool false)] := ⟨_, rfl⟩
                        refine wp_region_invg (by kernel_rfl) vals (fun wz => Below w6.heap.size w6 wz) 244 279 (by kernel_rfl) (by kernel_rfl) (by rw [hvals]; kernel_rfl) (Nat.le_of_ble_eq_true (by kernel_rfl)) (by kernel_rfl) (by kernel_rfl) ((Below.refl _ _).drew) ?_ ?_
                        · intro listed a wz i2 o ho inv hw hpre
                          subst hvals
                          obtain ⟨x0, x1, x2, x3, x4, y0, y2, y3⟩ := F6.out.below hw
                          match i2, ho with
                          | 0, ho =>
                            have e := Option.some.inj ho
                            subst e
                            have e29 : a.tmps[29]?.getD undef = (.pointer (some ⟨R0, 0, none⟩)) := by rw [← Array.getD_eq_getD_getElem?]; exact inv.far (s := 29) (by kernel_rfl)
                            exact ⟨wanted_free rfl, wp_value (.pointer (some ⟨R0, 0, none⟩)) (by simp [execOp, Act.eval, go_sem, e29]) ⟨rfl, hw⟩⟩
                          | 1, ho =>
                            have e := Option.some.inj ho
                            subst e
                            have e244 : a.tmps[244]?.getD undef = (.pointer (some ⟨R0, 0, none⟩)) := by rw [← Array.getD_eq_getD_getElem?]; exact inv.now 244 0 rfl (hpre ⟨0, .data⟩ (by simp) rfl)
                            exact ⟨wanted_free rfl, wp_value (.string (nm i)) (by simp [execOp, Act.eval, go_sem, e244, x0]) ⟨rfl, hw⟩⟩
                          | 2, ho =>
                            have e := Option.some.inj ho
                            subst e
                            have e24 : a.tmps[24]?.getD undef = (.int .i64 (i : Int)) := by rw [← Array.getD_eq_getD_getElem?]; exact inv.far (s := 24) (by kernel_rfl)
                            exact ⟨wanted_free rfl, wp_value (.int .i64 (i : Int)) (by simp [execOp, Act.eval, go_sem, e24]) ⟨rfl, hw⟩⟩
                          | 3, ho =>
                            have e := Option.some.inj ho
                            subst e
                            have e246 : a.tmps[246]?.getD undef = (.int .i64 (i : Int)) := by rw [← Array.getD_eq_getD_getElem?]; exact inv.now 246 2 rfl (hpre ⟨2, .data⟩ (by simp) rfl)
                            refine ⟨wanted_free rfl, wp_enter (f := 4) (args := #[.int .i64 (i : Int)]) (by simp [execOp, resolve, invoke, Act.eval, go_sem, e246]) ((name_any i wz (by omega)).mono ?_)⟩
                            rintro e2 w9 ⟨rfl, hb9⟩
                            exact ⟨_, rfl, rfl, hw.trans ⟨hb9.os, hb9.tape, hb9.output, hb9.size, fun x hx => hb9.block x (Nat.lt_of_lt_of_le hx hw.size)⟩⟩
                          | 4, ho =>
                            have e := Option.some.inj ho
                            subst e
                            have e245 : a.tmps[245]?.getD undef = (.string (nm i)) := by rw [← Array.getD_eq_getD_getElem?]; exact inv.now 245 1 rfl (hpre ⟨1, .data⟩ (by simp) rfl)
                            have e247 : a.tmps[247]?.getD undef = (.string (nm i)) := by rw [← Array.getD_eq_getD_getElem?]; exact inv.now 247 3 rfl (hpre ⟨3, .data⟩ (by simp) rfl)
                            exact ⟨wanted_free rfl, wp_value (.bool false) (by simp [execOp, Act.eval, go_sem, e245, e247]) ⟨rfl, hw⟩⟩
                          | 5, ho =>
                            have e := Option.some.inj ho
                            subst e
                            have e248 : a.tmps[248]?.getD undef = (.bool false) := by rw [← Array.getD_eq_getD_getElem?]; exact inv.now 248 4 rfl (hpre ⟨4, .data⟩ (by simp) rfl)
                            exact ⟨wanted_free rfl, wp_value (.bool false) (by simp [execOp, Act.eval, go_sem, e248]) ⟨rfl, hw⟩⟩
                          | 6, ho =>
                            have e := Option.some.inj ho
                            subst e
                            have e29 : a.tmps[29]?.getD undef = (.pointer (some ⟨R0, 0, none⟩)) := by rw [← Array.getD_eq_getD_getElem?]; exact inv.far (s := 29) (by kernel_rfl)
                            exact ⟨inv.wanted (by kernel_rfl) rfl rfl (hpre ⟨5, .guard⟩ (by simp) rfl) rfl, wp_value (.pointer (some ⟨R0, 1, none⟩)) (by simp [execOp, Act.eval, go_sem, e29]) ⟨rfl, hw⟩⟩
                          | 7, ho =>
                            have e := Option.some.inj ho
                            subst e
                            have e250 : a.tmps[250]?.getD undef = (.pointer (some ⟨R0, 1, none⟩)) := by rw [← Array.getD_eq_getD_getElem?]; exact inv.now 250 6 rfl (hpre ⟨6, .data⟩ (by simp) rfl)
                            exact ⟨inv.wanted (by kernel_rfl) rfl rfl (hpre ⟨5, .guard⟩ (by simp) rfl) rfl, wp_value (.string (ty i)) (by simp [execOp, Act.eval, go_sem, e250, x1]) ⟨rfl, hw⟩⟩
                          | 8, ho =>
                            have e := Option.some.inj ho
                            subst e
                            have e0 : a.tmps[0]?.getD undef = (.slice (some ⟨b, off, none⟩) k cap) := by rw [← Array.getD_eq_getD_getElem?]; exact inv.far (s := 0) (by kernel_rfl)
                            exact ⟨inv.wanted (by kernel_rfl) rfl rfl (hpre ⟨5, .guard⟩ (by simp) rfl) rfl, wp_value (.slice (some ⟨b, off, none⟩) k cap) (by simp [execOp, Act.eval, go_sem, e0]) ⟨rfl, hw⟩⟩
                          | 9, ho =>
                            have e := Option.some.inj ho
                            subst e
                            have e24 : a.tmps[24]?.getD undef = (.int .i64 (i : Int)) := by rw [← Array.getD_eq_getD_getElem?]; exact inv.far (s := 24) (by kernel_rfl)
                            exact ⟨inv.wanted (by kernel_rfl) rfl rfl (hpre ⟨5, .guard⟩ (by simp) rfl) rfl, wp_value (.int .i64 (i : Int)) (by simp [execOp, Act.eval, go_sem, e24]) ⟨rfl, hw⟩⟩
                          | 10, ho =>
                            have e := Option.some.inj ho
                            subst e
                            have e252 : a.tmps[252]?.getD undef = (.slice (some ⟨b, off, none⟩) k cap) := by rw [← Array.getD_eq_getD_getElem?]; exact inv.now 252 8 rfl (hpre ⟨8, .data⟩ (by simp) rfl)
                            have e253 : a.tmps[253]?.getD undef = (.int .i64 (i : Int)) := by rw [← Array.getD_eq_getD_getElem?]; exact inv.now 253 9 rfl (hpre ⟨9, .data⟩ (by simp) rfl)
                            exact ⟨inv.wanted (by kernel_rfl) rfl rfl (hpre ⟨5, .guard⟩ (by simp) rfl) rfl, wp_value (.pointer (some ⟨b, off + i * 4, none⟩)) (by simp [execOp, Act.eval, go_sem, e252, e253, hiI]) ⟨rfl, hw⟩⟩
                          | 11, ho =>
                            have e := Option.some.inj ho
                            subst e
                            have e254 : a.tmps[254]?.getD undef = (.pointer (some ⟨b, off + i * 4, none⟩)) := by rw [← Array.getD_eq_getD_getElem?]; exact inv.now 254 10 rfl (hpre ⟨10, .data⟩ (by simp) rfl)
                            exact ⟨inv.wanted (by kernel_rfl) rfl rfl (hpre ⟨5, .guard⟩ (by simp) rfl) rfl, wp_value (.pointer (some ⟨b, off + i * 4 + 2, none⟩)) (by simp [execOp, Act.eval, go_sem, e254]) ⟨rfl, hw⟩⟩
                          | 12, ho =>
                            have e := Option.some.inj ho
                            subst e
                            have e255 : a.tmps[255]?.getD undef = (.pointer (some ⟨b, off + i * 4 + 2, none⟩)) := by rw [← Array.getD_eq_getD_getElem?]; exact inv.now 255 11 rfl (hpre ⟨11, .data⟩ (by simp) rfl)
                            exact ⟨inv.wanted (by kernel_rfl) rfl rfl (hpre ⟨5, .guard⟩ (by simp) rfl) rfl, wp_value (.string (ty i)) (by simp [execOp, Act.eval, go_sem, e255, y2]) ⟨rfl, hw⟩⟩
                          | 13, ho =>
                            have e := Option.some.inj ho
                            subst e
                            have e251 : a.tmps[251]?.getD undef = (.string (ty i)) := by rw [← Array.getD_eq_getD_getElem?]; exact inv.now 251 7 rfl (hpre ⟨7, .data⟩ (by simp) rfl)
                            have e256 : a.tmps[256]?.getD undef = (.string (ty i)) := by rw [← Array.getD_eq_getD_getElem?]; exact inv.now 256 12 rfl (hpre ⟨12, .data⟩ (by simp) rfl)
                            exact ⟨inv.wanted (by kernel_rfl) rfl rfl (hpre ⟨5, .guard⟩ (by simp) rfl) rfl, wp_value (.bool false) (by simp [execOp, Act.eval, go_sem, e251, e256]) ⟨rfl, hw⟩⟩
                          | 14, ho =>
                            have e := Option.some.inj ho
                            subst e
                            have e249 : a.tmps[249]?.getD undef = (.bool false) := by rw [← Array.getD_eq_getD_getElem?]; exact inv.now 249 5 rfl (hpre ⟨5, .data⟩ (by simp) rfl)
                            have e257 : a.tmps[257]?.getD undef = (.bool false) := by rw [← Array.getD_eq_getD_getElem?]; exact inv.now 257 13 rfl (hpre ⟨13, .data⟩ (by simp) rfl)
                            exact ⟨wanted_free rfl, wp_value (.bool false) (by simp [execOp, Act.eval, go_sem, e249, e257]) ⟨rfl, hw⟩⟩
                          | 15, ho =>
                            have e := Option.some.inj ho
                            subst e
                            have e258 : a.tmps[258]?.getD undef = (.bool false) := by rw [← Array.getD_eq_getD_getElem?]; exact inv.now 258 14 rfl (hpre ⟨14, .data⟩ (by simp) rfl)
                            exact ⟨wanted_free rfl, wp_value (.bool false) (by simp [execOp, Act.eval, go_sem, e258]) ⟨rfl, hw⟩⟩
                          | 16, ho =>
                            have e := Option.some.inj ho
                            subst e
                            have e29 : a.tmps[29]?.getD undef = (.pointer (some ⟨R0, 0, none⟩)) := by rw [← Array.getD_eq_getD_getElem?]; exact inv.far (s := 29) (by kernel_rfl)
                            exact ⟨inv.wanted (by kernel_rfl) rfl rfl (hpre ⟨15, .guard⟩ (by simp) rfl) rfl, wp_value (.pointer (some ⟨R0, 2, none⟩)) (by simp [execOp, Act.eval, go_sem, e29]) ⟨rfl, hw⟩⟩
                          | 17, ho =>
                            have e := Option.some.inj ho
                            subst e
                            have e260 : a.tmps[260]?.getD undef = (.pointer (some ⟨R0, 2, none⟩)) := by rw [← Array.getD_eq_getD_getElem?]; exact inv.now 260 16 rfl (hpre ⟨16, .data⟩ (by simp) rfl)
                            exact ⟨inv.wanted (by kernel_rfl) rfl rfl (hpre ⟨15, .guard⟩ (by simp) rfl) rfl, wp_value (.bool (cu i)) (by simp [execOp, Act.eval, go_sem, e260, x2]) ⟨rfl, hw⟩⟩
                          | 18, ho =>
                            have e := Option.some.inj ho
                            subst e
                            have e0 : a.tmps[0]?.getD undef = (.slice (some ⟨b, off, none⟩) k cap) := by rw [← Array.getD_eq_getD_getElem?]; exact inv.far (s := 0) (by kernel_rfl)
                            exact ⟨inv.wanted (by kernel_rfl) rfl rfl (hpre ⟨15, .guard⟩ (by simp) rfl) rfl, wp_value (.slice (some ⟨b, off, none⟩) k cap) (by simp [execOp, Act.eval, go_sem, e0]) ⟨rfl, hw⟩⟩
                          | 19, ho =>
                            have e := Option.some.inj ho
                            subst e
                            have e24 : a.tmps[24]?.getD undef = (.int .i64 (i : Int)) := by rw [← Array.getD_eq_getD_getElem?]; exact inv.far (s := 24) (by kernel_rfl)
                            exact ⟨inv.wanted (by kernel_rfl) rfl rfl (hpre ⟨15, .guard⟩ (by simp) rfl) rfl, wp_value (.int .i64 (i : Int)) (by simp [execOp, Act.eval, go_sem, e24]) ⟨rfl, hw⟩⟩
                          | 20, ho =>
                            have e := Option.some.inj ho
                            subst e
                            have e262 : a.tmps[262]?.getD undef = (.slice (some ⟨b, off, none⟩) k cap) := by rw [← Array.getD_eq_getD_getElem?]; exact inv.now 262 18 rfl (hpre ⟨18, .data⟩ (by simp) rfl)
                            have e263 : a.tmps[263]?.getD undef = (.int .i64 (i : Int)) := by rw [← Array.getD_eq_getD_getElem?]; exact inv.now 263 19 rfl (hpre ⟨19, .data⟩ (by simp) rfl)
                            exact ⟨inv.wanted (by kernel_rfl) rfl rfl (hpre ⟨15, .guard⟩ (by simp) rfl) rfl, wp_value (.pointer (some ⟨b, off + i * 4, none⟩)) (by simp [execOp, Act.eval, go_sem, e262, e263, hiI]) ⟨rfl, hw⟩⟩
                          | 21, ho =>
                            have e := Option.some.inj ho
                            subst e
                            have e264 : a.tmps[264]?.getD undef = (.pointer (some ⟨b, off + i * 4, none⟩)) := by rw [← Array.getD_eq_getD_getElem?]; exact inv.now 264 20 rfl (hpre ⟨20, .data⟩ (by simp) rfl)
                            exact ⟨inv.wanted (by kernel_rfl) rfl rfl (hpre ⟨15, .guard⟩ (by simp) rfl) rfl, wp_value (.pointer (some ⟨b, off + i * 4, none⟩)) (by simp [execOp, Act.eval, go_sem, e264]) ⟨rfl, hw⟩⟩
                          | 22, ho =>
                            have e := Option.some.inj ho
                            subst e
                            have e265 : a.tmps[265]?.getD undef = (.pointer (some ⟨b, off + i * 4, none⟩)) := by rw [← Array.getD_eq_getD_getElem?]; exact inv.now 265 21 rfl (hpre ⟨21, .data⟩ (by simp) rfl)
                            exact ⟨inv.wanted (by kernel_rfl) rfl rfl (hpre ⟨15, .guard⟩ (by simp) rfl) rfl, wp_value (.bool (cu i)) (by simp [execOp, Act.eval, go_sem, e265, y0]) ⟨rfl, hw⟩⟩
                          | 23, ho =>
                            have e := Option.some.inj ho
                            subst e
                            have e261 : a.tmps[261]?.getD undef = (.bool (cu i)) := by rw [← Array.getD_eq_getD_getElem?]; exact inv.now 261 17 rfl (hpre ⟨17, .data⟩ (by simp) rfl)
                            have e266 : a.tmps[266]?.getD undef = (.bool (cu i)) := by rw [← Array.getD_eq_getD_getElem?]; exact inv.now 266 22 rfl (hpre ⟨22, .data⟩ (by simp) rfl)
                            exact ⟨inv.wanted (by kernel_rfl) rfl rfl (hpre ⟨15, .guard⟩ (by simp) rfl) rfl, wp_value (.bool false) (by simp [execOp, Act.eval, go_sem, e261, e266]) ⟨rfl, hw⟩⟩
                          | 24, ho =>
                            have e := Option.some.inj ho
                            subst e
                            have e259 : a.tmps[259]?.getD undef = (.bool false) := by rw [← Array.getD_eq_getD_getElem?]; exact inv.now 259 15 rfl (hpre ⟨15, .data⟩ (by simp) rfl)
                            have e267 : a.tmps[267]?.getD undef = (.bool false) := by rw [← Array.getD_eq_getD_getElem?]; exact inv.now 267 23 rfl (hpre ⟨23, .data⟩ (by simp) rfl)
                            exact ⟨wanted_free rfl, wp_value (.bool false) (by simp [execOp, Act.eval, go_sem, e259, e267]) ⟨rfl, hw⟩⟩
                          | 25, ho =>
                            have e := Option.some.inj ho
                            subst e
                            have e268 : a.tmps[268]?.getD undef = (.bool false) := by rw [← Array.getD_eq_getD_getElem?]; exact inv.now 268 24 rfl (hpre ⟨24, .data⟩ (by simp) rfl)
                            exact ⟨wanted_free rfl, wp_value (.bool false) (by simp [execOp, Act.eval, go_sem, e268]) ⟨rfl, hw⟩⟩
                          | 26, ho =>
                            have e := Option.some.inj ho
                            subst e
                            have e29 : a.tmps[29]?.getD undef = (.pointer (some ⟨R0, 0, none⟩)) := by rw [← Array.getD_eq_getD_getElem?]; exact inv.far (s := 29) (by kernel_rfl)
                            exact ⟨inv.wanted (by kernel_rfl) rfl rfl (hpre ⟨25, .guard⟩ (by simp) rfl) rfl, wp_value (.pointer (some ⟨R0, 4, none⟩)) (by simp [execOp, Act.eval, go_sem, e29]) ⟨rfl, hw⟩⟩
                          | 27, ho =>
                            have e := Option.some.inj ho
                            subst e
                            have e270 : a.tmps[270]?.getD undef = (.pointer (some ⟨R0, 4, none⟩)) := by rw [← Array.getD_eq_getD_getElem?]; exact inv.now 270 26 rfl (hpre ⟨26, .data⟩ (by simp) rfl)
                            exact ⟨inv.wanted (by kernel_rfl) rfl rfl (hpre ⟨25, .guard⟩ (by simp) rfl) rfl, wp_value (.string (po i)) (by simp [execOp, Act.eval, go_sem, e270, x4]) ⟨rfl, hw⟩⟩
                          | 28, ho =>
                            have e := Option.some.inj ho
                            subst e
                            have e0 : a.tmps[0]?.getD undef = (.slice (some ⟨b, off, none⟩) k cap) := by rw [← Array.getD_eq_getD_getElem?]; exact inv.far (s := 0) (by kernel_rfl)
                            exact ⟨inv.wanted (by kernel_rfl) rfl rfl (hpre ⟨25, .guard⟩ (by simp) rfl) rfl, wp_value (.slice (some ⟨b, off, none⟩) k cap) (by simp [execOp, Act.eval, go_sem, e0]) ⟨rfl, hw⟩⟩
                          | 29, ho =>
                            have e := Option.some.inj ho
                            subst e
                            have e24 : a.tmps[24]?.getD undef = (.int .i64 (i : Int)) := by rw [← Array.getD_eq_getD_getElem?]; exact inv.far (s := 24) (by kernel_rfl)
                            exact ⟨inv.wanted (by kernel_rfl) rfl rfl (hpre ⟨25, .guard⟩ (by simp) rfl) rfl, wp_value (.int .i64 (i : Int)) (by simp [execOp, Act.eval, go_sem, e24]) ⟨rfl, hw⟩⟩
                          | 30, ho =>
                            have e := Option.some.inj ho
                            subst e
                            have e272 : a.tmps[272]?.getD undef = (.slice (some ⟨b, off, none⟩) k cap) := by rw [← Array.getD_eq_getD_getElem?]; exact inv.now 272 28 rfl (hpre ⟨28, .data⟩ (by simp) rfl)
                            have e273 : a.tmps[273]?.getD undef = (.int .i64 (i : Int)) := by rw [← Array.getD_eq_getD_getElem?]; exact inv.now 273 29 rfl (hpre ⟨29, .data⟩ (by simp) rfl)
                            exact ⟨inv.wanted (by kernel_rfl) rfl rfl (hpre ⟨25, .guard⟩ (by simp) rfl) rfl, wp_value (.pointer (some ⟨b, off + i * 4, none⟩)) (by simp [execOp, Act.eval, go_sem, e272, e273, hiI]) ⟨rfl, hw⟩⟩
                          | 31, ho =>
                            have e := Option.some.inj ho
                            subst e
                            have e274 : a.tmps[274]?.getD undef = (.pointer (some ⟨b, off + i * 4, none⟩)) := by rw [← Array.getD_eq_getD_getElem?]; exact inv.now 274 30 rfl (hpre ⟨30, .data⟩ (by simp) rfl)
                            exact ⟨inv.wanted (by kernel_rfl) rfl rfl (hpre ⟨25, .guard⟩ (by simp) rfl) rfl, wp_value (.pointer (some ⟨b, off + i * 4 + 3, none⟩)) (by simp [execOp, Act.eval, go_sem, e274]) ⟨rfl, hw⟩⟩
                          | 32, ho =>
                            have e := Option.some.inj ho
                            subst e
                            have e275 : a.tmps[275]?.getD undef = (.pointer (some ⟨b, off + i * 4 + 3, none⟩)) := by rw [← Array.getD_eq_getD_getElem?]; exact inv.now 275 31 rfl (hpre ⟨31, .data⟩ (by simp) rfl)
                            exact ⟨inv.wanted (by kernel_rfl) rfl rfl (hpre ⟨25, .guard⟩ (by simp) rfl) rfl, wp_value (.string (po i)) (by simp [execOp, Act.eval, go_sem, e275, y3]) ⟨rfl, hw⟩⟩
                          | 33, ho =>
                            have e := Option.some.inj ho
                            subst e
                            have e271 : a.tmps[271]?.getD undef = (.string (po i)) := by rw [← Array.getD_eq_getD_getElem?]; exact inv.now 271 27 rfl (hpre ⟨27, .data⟩ (by simp) rfl)
                            have e276 : a.tmps[276]?.getD undef = (.string (po i)) := by rw [← Array.getD_eq_getD_getElem?]; exact inv.now 276 32 rfl (hpre ⟨32, .data⟩ (by simp) rfl)
                            exact ⟨inv.wanted (by kernel_rfl) rfl rfl (hpre ⟨25, .guard⟩ (by simp) rfl) rfl, wp_value (.bool false) (by simp [execOp, Act.eval, go_sem, e271, e276]) ⟨rfl, hw⟩⟩
                          | 34, ho =>
                            have e := Option.some.inj ho
                            subst e
                            have e269 : a.tmps[269]?.getD undef = (.bool false) := by rw [← Array.getD_eq_getD_getElem?]; exact inv.now 269 25 rfl (hpre ⟨25, .data⟩ (by simp) rfl)
                            have e277 : a.tmps[277]?.getD undef = (.bool false) := by rw [← Array.getD_eq_getD_getElem?]; exact inv.now 277 33 rfl (hpre ⟨33, .data⟩ (by simp) rfl)
                            exact ⟨wanted_free rfl, wp_value (.bool false) (by simp [execOp, Act.eval, go_sem, e269, e277]) ⟨rfl, hw⟩⟩
                          | x + 35, ho => exact absurd (Array.getElem?_eq_some_iff.1 ho).1 (by simp)
                        · intro w7 hb7
                          subst hvals
                          have k7 : Hid (Kept [] w6 w7) := Below.kept hb7 []
                          have F7 := hidE (F6.out.below hb7)
                          clear hb7
                          simp only [List.take_succ_cons, List.take_zero, List.drop_succ_cons, List.drop_zero, List.cons_append, List.nil_append]
                          go_wp2_with fail
                          obtain ⟨wl, hwl⟩ : ∃ wl, wl = wr := ⟨_, rfl⟩
                          subst hwl
                          have K27 : Hid (Kept [] w2 w7) := (K5.out.then K6.out).then k7.out
                          have S7 : Hid (w7.rowIs wm.heap.size 4 k (fun y => .bool (N i y))) := by
                            have h5 : w5.rowIs wm.heap.size 4 k (fun y => .bool (N i y)) := by
                              rw [HW5.out]
                              exact s1.out.setOther (by show wm.heap.size ≠ w2.heap.size; omega) _
                            exact (K6.out.then k7.out).row h5 (by simp)
                          have q0 : Hid (Kept [] w7 w7) := Kept.refl _ _
                          go_loopw [30, 31] (fun s30 s31 wx => ∃ x : Nat, x ≤ k ∧ s30 = .int .i64 ((lst x (N i)).length : Int) ∧ s31 = .int .i64 x ∧ Hid (Kept [] w7 wx)) (fun _ s31 _ => k - (intOf s31).toNat)
                          case atStart => exact ⟨0, by omega, rfl, rfl, q0⟩
                          case round =>
                            clear q0
                            obtain ⟨x, hx, rfl, rfl, kx⟩ := hrel
                            have hjl2 : (lst x (N i)).length ≤ k := Nat.le_trans (lst_le x (N i)) hx
                            by_cases hxk : x < k
                            · have hsx := (kx.out.row S7.out (by simp)).cell hxk
                              cases hnx : N i x with
                              | true =>
                                rw [hnx] at hsx
                                obtain ⟨hlt3, hget⟩ := lst_get_lt (N i) hxk hnx
                                have HNX := hidE hnx
                                obtain ⟨jj, hjj⟩ : ∃ jj, jj = (lst x (N i)).length := ⟨_, rfl⟩
                                rw [← hjj] at hlt3 hget hjl2
                                rw [← hjj]
                                have HJJ := hidE hjj
                                obtain ⟨b2, o2, had, hb2, _, hcs⟩ := HDEP.out (fun h => by rw [h] at hlt3; simp at hlt3)
                                subst had
                                have cn : wr.cell? ⟨b2, o2 + jj, none⟩ = some (.string (nm x)) := by
                                  rw [kx.out.cell (Nat.lt_of_lt_of_le hb2 K27.out.size) (by simp), K27.out.cell hb2 (by simp), hcs jj hlt3, hget]
                                  rfl
                                have c3 : wr.cell? ⟨R0, 3, none⟩ = some (.slice (some ⟨b2, o2, none⟩) ll cd) := (kx.out.cell (World.block_lt_of_cell? _ _ F7.out.x3) (by simp)).trans F7.out.x3
                                have hjI : (jj : Int) < (ll : Int) := by rw [← HLL.out] at hlt3; omega
                                have hjN : jj < ll := by omega
                                clear hnx hcs hlt3 hget hjj
                                go_wp2_with fail
                                obtain ⟨vals, hvals⟩ : ∃ vals : List Value, vals = [(.int .i64 (jj : Int)), (.pointer (some ⟨R0, 3, none⟩)), (.slice (some ⟨b2, o2, none⟩) ll cd), (.int .i64 (ll : Int)), (.bool false), (.bool false), (.pointer (some ⟨R0, 3, none⟩)), (.slice (some ⟨b2, o2, none⟩) ll cd), (.int .i64 (jj : Int)), (.pointer (some ⟨b2, o2 + jj, none⟩)), (.string (nm x)), (.int .i64 (x : Int)), (.string (nm x)), (.bool false), (.bool false)] := ⟨_, rfl⟩
                                refine wp_region_invg (by kernel_rfl) vals (fun wz => Below wr.heap.size wr wz) 288 303 (by kernel_rfl) (by kernel_rfl) (by rw [hvals]; kernel_rfl) (Nat.le_of_ble_eq_true (by kernel_rfl)) (by kernel_rfl) (by kernel_rfl) ((Below.refl _ _).drew) ?_ ?_
                                · intro listed a wz i2 o ho inv hw hpre
                                  subst hvals
                                  have hc3 := (hw.cell (World.block_lt_of_cell? _ _ c3)).trans c3
                                  have hcn := (hw.cell (World.block_lt_of_cell? _ _ cn)).trans cn
                                  match i2, ho with
                                  | 0, ho =>
                                    have e := Option.some.inj ho
                                    subst e
                                    have e30 : a.tmps[30]?.getD undef = (.int .i64 (jj : Int)) := by rw [← Array.getD_eq_getD_getElem?]; exact inv.far (s := 30) (by kernel_rfl)
                                    exact ⟨wanted_free rfl, wp_value (.int .i64 (jj : Int)) (by simp [execOp, Act.eval, go_sem, e30]) ⟨rfl, hw⟩⟩
                                  | 1, ho =>
                                    have e := Option.some.inj ho
                                    subst e
                                    have e29 : a.tmps[29]?.getD undef = (.pointer (some ⟨R0, 0, none⟩)) := by rw [← Array.getD_eq_getD_getElem?]; exact inv.far (s := 29) (by kernel_rfl)
                                    exact ⟨wanted_free rfl, wp_value (.pointer (some ⟨R0, 3, none⟩)) (by simp [execOp, Act.eval, go_sem, e29]) ⟨rfl, hw⟩⟩
                                  | 2, ho =>
                                    have e := Option.some.inj ho
                                    subst e
                                    have e289 : a.tmps[289]?.getD undef = (.pointer (some ⟨R0, 3, none⟩)) := by rw [← Array.getD_eq_getD_getElem?]; exact inv.now 289 1 rfl (hpre ⟨1, .data⟩ (by simp) rfl)
                                    exact ⟨wanted_free rfl, wp_value (.slice (some ⟨b2, o2, none⟩) ll cd) (by simp [execOp, Act.eval, go_sem, e289, hc3]) ⟨rfl, hw⟩⟩
                                  | 3, ho =>
                                    have e := Option.some.inj ho
                                    subst e
                                    have e290 : a.tmps[290]?.getD undef = (.slice (some ⟨b2, o2, none⟩) ll cd) := by rw [← Array.getD_eq_getD_getElem?]; exact inv.now 290 2 rfl (hpre ⟨2, .data⟩ (by simp) rfl)
                                    exact ⟨wanted_free rfl, wp_value (.int .i64 (ll : Int)) (by simp [execOp, Act.eval, go_sem, e290, resolve, invoke, builtin]) ⟨rfl, hw⟩⟩
                                  | 4, ho =>
                                    have e := Option.some.inj ho
                                    subst e
                                    have e288 : a.tmps[288]?.getD undef = (.int .i64 (jj : Int)) := by rw [← Array.getD_eq_getD_getElem?]; exact inv.now 288 0 rfl (hpre ⟨0, .data⟩ (by simp) rfl)
                                    have e291 : a.tmps[291]?.getD undef = (.int .i64 (ll : Int)) := by rw [← Array.getD_eq_getD_getElem?]; exact inv.now 291 3 rfl (hpre ⟨3, .data⟩ (by simp) rfl)
                                    exact ⟨wanted_free rfl, wp_value (.bool false) (by simp [execOp, Act.eval, go_sem, e288, e291, hjN]) ⟨rfl, hw⟩⟩
                                  | 5, ho =>
                                    have e := Option.some.inj ho
                                    subst e
                                    have e292 : a.tmps[292]?.getD undef = (.bool false) := by rw [← Array.getD_eq_getD_getElem?]; exact inv.now 292 4 rfl (hpre ⟨4, .data⟩ (by simp) rfl)
                                    exact ⟨wanted_free rfl, wp_value (.bool false) (by simp [execOp, Act.eval, go_sem, e292]) ⟨rfl, hw⟩⟩
                                  | 6, ho =>
                                    have e := Option.some.inj ho
                                    subst e
                                    have e29 : a.tmps[29]?.getD undef = (.pointer (some ⟨R0, 0, none⟩)) := by rw [← Array.getD_eq_getD_getElem?]; exact inv.far (s := 29) (by kernel_rfl)
                                    exact ⟨inv.wanted (by kernel_rfl) rfl rfl (hpre ⟨5, .guard⟩ (by simp) rfl) rfl, wp_value (.pointer (some ⟨R0, 3, none⟩)) (by simp [execOp, Act.eval, go_sem, e29]) ⟨rfl, hw⟩⟩
                                  | 7, ho =>
                                    have e := Option.some.inj ho
                                    subst e
                                    have e294 : a.tmps[294]?.getD undef = (.pointer (some ⟨R0, 3, none⟩)) := by rw [← Array.getD_eq_getD_getElem?]; exact inv.now 294 6 rfl (hpre ⟨6, .data⟩ (by simp) rfl)
                                    exact ⟨inv.wanted (by kernel_rfl) rfl rfl (hpre ⟨5, .guard⟩ (by simp) rfl) rfl, wp_value (.slice (some ⟨b2, o2, none⟩) ll cd) (by simp [execOp, Act.eval, go_sem, e294, hc3]) ⟨rfl, hw⟩⟩
                                  | 8, ho =>
                                    have e := Option.some.inj ho
                                    subst e
                                    have e30 : a.tmps[30]?.getD undef = (.int .i64 (jj : Int)) := by rw [← Array.getD_eq_getD_getElem?]; exact inv.far (s := 30) (by kernel_rfl)
                                    exact ⟨inv.wanted (by kernel_rfl) rfl rfl (hpre ⟨5, .guard⟩ (by simp) rfl) rfl, wp_value (.int .i64 (jj : Int)) (by simp [execOp, Act.eval, go_sem, e30]) ⟨rfl, hw⟩⟩
                                  | 9, ho =>
                                    have e := Option.some.inj ho
                                    subst e
                                    have e295 : a.tmps[295]?.getD undef = (.slice (some ⟨b2, o2, none⟩) ll cd) := by rw [← Array.getD_eq_getD_getElem?]; exact inv.now 295 7 rfl (hpre ⟨7, .data⟩ (by simp) rfl)
                                    have e296 : a.tmps[296]?.getD undef = (.int .i64 (jj : Int)) := by rw [← Array.getD_eq_getD_getElem?]; exact inv.now 296 8 rfl (hpre ⟨8, .data⟩ (by simp) rfl)
                                    exact ⟨inv.wanted (by kernel_rfl) rfl rfl (hpre ⟨5, .guard⟩ (by simp) rfl) rfl, wp_value (.pointer (some ⟨b2, o2 + jj, none⟩)) (by simp [execOp, Act.eval, go_sem, e295, e296, hjI]) ⟨rfl, hw⟩⟩
                                  | 10, ho =>
                                    have e := Option.some.inj ho
                                    subst e
                                    have e297 : a.tmps[297]?.getD undef = (.pointer (some ⟨b2, o2 + jj, none⟩)) := by rw [← Array.getD_eq_getD_getElem?]; exact inv.now 297 9 rfl (hpre ⟨9, .data⟩ (by simp) rfl)
                                    exact ⟨inv.wanted (by kernel_rfl) rfl rfl (hpre ⟨5, .guard⟩ (by simp) rfl) rfl, wp_value (.string (nm x)) (by simp [execOp, Act.eval, go_sem, e297, hcn]) ⟨rfl, hw⟩⟩
                                  | 11, ho =>
                                    have e := Option.some.inj ho
                                    subst e
                                    have e31 : a.tmps[31]?.getD undef = (.int .i64 (x : Int)) := by rw [← Array.getD_eq_getD_getElem?]; exact inv.far (s := 31) (by kernel_rfl)
                                    exact ⟨inv.wanted (by kernel_rfl) rfl rfl (hpre ⟨5, .guard⟩ (by simp) rfl) rfl, wp_value (.int .i64 (x : Int)) (by simp [execOp, Act.eval, go_sem, e31]) ⟨rfl, hw⟩⟩
                                  | 12, ho =>
                                    have e := Option.some.inj ho
                                    subst e
                                    have e299 : a.tmps[299]?.getD undef = (.int .i64 (x : Int)) := by rw [← Array.getD_eq_getD_getElem?]; exact inv.now 299 11 rfl (hpre ⟨11, .data⟩ (by simp) rfl)
                                    refine ⟨inv.wanted (by kernel_rfl) rfl rfl (hpre ⟨5, .guard⟩ (by simp) rfl) rfl, wp_enter (f := 4) (args := #[.int .i64 (x : Int)]) (by simp [execOp, resolve, invoke, Act.eval, go_sem, e299]) ((name_any x wz (by omega)).mono ?_)⟩
                                    rintro e2 w9 ⟨rfl, hb9⟩
                                    exact ⟨_, rfl, rfl, hw.trans ⟨hb9.os, hb9.tape, hb9.output, hb9.size, fun q hq => hb9.block q (Nat.lt_of_lt_of_le hq hw.size)⟩⟩
                                  | 13, ho =>
                                    have e := Option.some.inj ho
                                    subst e
                                    have e298 : a.tmps[298]?.getD undef = (.string (nm x)) := by rw [← Array.getD_eq_getD_getElem?]; exact inv.now 298 10 rfl (hpre ⟨10, .data⟩ (by simp) rfl)
                                    have e300 : a.tmps[300]?.getD undef = (.string (nm x)) := by rw [← Array.getD_eq_getD_getElem?]; exact inv.now 300 12 rfl (hpre ⟨12, .data⟩ (by simp) rfl)
                                    exact ⟨inv.wanted (by kernel_rfl) rfl rfl (hpre ⟨5, .guard⟩ (by simp) rfl) rfl, wp_value (.bool false) (by simp [execOp, Act.eval, go_sem, e298, e300]) ⟨rfl, hw⟩⟩
                                  | 14, ho =>
                                    have e := Option.some.inj ho
                                    subst e
                                    have e293 : a.tmps[293]?.getD undef = (.bool false) := by rw [← Array.getD_eq_getD_getElem?]; exact inv.now 293 5 rfl (hpre ⟨5, .data⟩ (by simp) rfl)
                                    have e301 : a.tmps[301]?.getD undef = (.bool false) := by rw [← Array.getD_eq_getD_getElem?]; exact inv.now 301 13 rfl (hpre ⟨13, .data⟩ (by simp) rfl)
                                    exact ⟨wanted_free rfl, wp_value (.bool false) (by simp [execOp, Act.eval, go_sem, e293, e301]) ⟨rfl, hw⟩⟩
                                  | y + 15, ho => exact absurd (Array.getElem?_eq_some_iff.1 ho).1 (by simp)
                                · intro w8 hb8
                                  subst hvals
                                  have k8 : Hid (Kept [] w7 w8) := kx.out.then (Below.kept hb8 [])
                                  clear hb8
                                  simp only [List.take_succ_cons, List.take_zero, List.drop_succ_cons, List.drop_zero, List.cons_append, List.nil_append]
                                  go_wp2_with fail
                                  go_roundw
                                  case rel => exact ⟨x + 1, by omega, by rw [lst_succ, HNX.out]; simp [← HJJ.out], by go_num, k8⟩
                                  case measure => simp [intOf]; omega
                              | false =>
                                rw [hnx] at hsx
                                have HNX := hidE hnx
                                clear hnx
                                go_wp2_with fail
                                go_roundw
                                case rel => exact ⟨x + 1, by omega, by rw [lst_succ, HNX.out]; simp, by go_num, kx⟩
                                case measure => simp [intOf]; omega
                            · have hxe : x = k := by omega
                              subst hxe
                              have c3 : wr.cell? ⟨R0, 3, none⟩ = some (.slice ad ll cd) := (kx.out.cell (World.block_lt_of_cell? _ _ F7.out.x3) (by simp)).trans F7.out.x3
                              rw [← HLL.out]
                              rw [← HLL.out] at hjl2
                              have htk1 : pl.take (m + 1) = pl.take m ++ [i] := by
                                rw [List.take_add_one, HI2.out]; rfl
                              have hit : i ∉ pl.take m := fun h => by
                                obtain ⟨y, hy, hym, e⟩ := take_mem h
                                have := nodup_at c0.out.road.nodup hy hml (e.trans HI1.out.symm)
                                omega
                              have e1 := hidE (e0.out.step hzm hit htk1 (Nat.le_refl _) KW.out s1.out (ky := by
                                rw [← HW5.out]
                                exact (K6.out.then k7.out).then kx.out))
                              clear htk1 hit
                              go_wp2_with fail
                              go_roundw
                              case rel => exact ⟨m + 1, _, by omega, by go_num, e1⟩
                              case measure => simp [intOf]; omega
                  · go_wp2_with fail
                    go_ret
                    exact ⟨rfl, OM.out⟩

set_option maxRecDepth 100000 in
theorem law_big (ao : Option Addr) (n cap : Nat) (w : World) (h : 256 < n) : Calls Ybaf.prog 3 #[.slice ao n cap] w fun e w' => e = .returned (.bool true) ∧ Below w.heap.size w w' := by
  go_enter Ybaf.func3, Ybaf.ntmps3
  go_wp2_with fail
  go_ret
  exact ⟨rfl, Below.refl _ _⟩
end Go.Proofs.YbulkcxswFmt
