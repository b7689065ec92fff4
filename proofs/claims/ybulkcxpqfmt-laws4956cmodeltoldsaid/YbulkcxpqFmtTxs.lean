import Derived.Test.YbulkcxpqFmtVis
import Derived.Test.YbulkcxpqFmtPlain
import Derived.Test.YbulkcxpqFmtErrs
import Derived.Test.YbulkcxpqFmtShelf
namespace Go.Proofs.YbulkcxpqFmt
open Go.RowKit Go.Extern.Stop Go.Stop Go.Extern

/-- A part of the bytes, as cells. -/
def part (zs : List Int) (p k : Nat) : List Value := ((zs.drop p).take k).map (Value.int .u8)
theorem part_length {zs : List Int} {p k : Nat} (h : p + k ≤ zs.length) : (part zs p k).length = k := by simp [part]; omega
theorem part_get {zs : List Int} {p k j : Nat} {v : Value} (h : (part zs p k)[j]? = some v) : p + j < zs.length ∧ v = .int .u8 (zs.getD (p + j) 0) := by
  unfold part at h
  rw [List.getElem?_map, List.getElem?_take] at h
  split at h
  · rw [List.getElem?_drop] at h
    rcases Nat.lt_or_ge (p + j) zs.length with hlt | hge
    · rw [List.getElem?_eq_getElem hlt] at h
      simp at h
      exact ⟨hlt, by rw [← h]; simp [List.getD, hlt]⟩
    · rw [List.getElem?_eq_none hge] at h; simp at h
  · simp at h
theorem map_get (l : List Int) (i : Nat) (h : i < l.length) : (l.map (Value.int .u8)).toArray[0 + i]? = some (.int .u8 (l.getD i 0)) := by
  simp [h, List.getD]
theorem part_one {zs : List Int} {p k : Nat} : ∀ v ∈ part zs p k, v.oneCell' = true := by
  intro v hv
  obtain ⟨z, _, rfl⟩ := List.mem_map.1 hv
  rfl

/-- What the payload's own memory holds. -/
def Src (w : World) (b off : Nat) (zs : List Int) : Prop := ∀ j, j < zs.length → w.cell? ⟨b, off + j, none⟩ = some (.int .u8 (zs.getD j 0))

theorem Src.kept {S : List Nat} {a w : World} {b off : Nat} {zs : List Int} (h : Src a b off zs) (hK : Kept S a w) (hb : b < a.heap.size) (hS : b ∉ S) : Src w b off zs :=
  fun j hj => (hK.cell (p := ⟨b, off + j, none⟩) hb hS).trans (h j hj)
theorem Src.part {w : World} {b off : Nat} {zs : List Int} (h : Src w b off zs) (p k : Nat) : ∀ j v, (part zs p k)[j]? = some v → w.cell? ⟨b, off + p + j, none⟩ = some v := by
  intro j v hv
  obtain ⟨h1, rfl⟩ := part_get hv
  have := h (p + j) h1
  rw [show off + p + j = off + (p + j) from by omega]
  exact this

theorem bytes_wf {zs : List Int} (h : Bytes zs) : ∀ z ∈ zs, (Lit.int .u8 z).wf = true := by
  intro z hz
  have := h z hz
  exact WalkArith.wf_u8 (by omega)

theorem u32_any {w : World} {L : Nat} {zs : List Int} {p : Nat} (hb : Bytes zs) (hp : p + 4 ≤ zs.length) (hL : w.heap[L]? = some (.cells (part zs p 4).toArray 68 (0, 0))) :
    Calls Ybaf.prog 15 #[.agg #[], .slice (some ⟨L, 0, none⟩) 4 4] w fun e w' => e = .returned (.int .u32 (be4 zs p : Nat)) ∧ Below w.heap.size w w' := by
  have hl : ((zs.drop p).take 4).length = 4 := by simp; omega
  have hc := Ybaf.binary_BE_Uint32_z ⟨L, 0, none⟩ 4 4 ((zs.drop p).take 4) w (by omega) (by omega) (fun i hi => by
    rw [Go.WideShapes.add_plain]
    exact cell_blk hL (map_get _ i hi)) (bytes_wf (hb.part p 4))
  rw [List.take_take, Nat.min_self, ← (be4_eq zs hb p hp).1] at hc
  exact hc
theorem u64_any {w : World} {L : Nat} {zs : List Int} (hb : Bytes zs) (hp : 8 ≤ zs.length) (hL : w.heap[L]? = some (.cells (part zs 0 8).toArray 56 (0, 0))) :
    Calls Ybaf.prog 14 #[.agg #[], .slice (some ⟨L, 0, none⟩) 8 8] w fun e w' => e = .returned (.int .u64 (Lib.beZ (zs.take 8))) ∧ Below w.heap.size w w' := by
  have hl : (zs.take 8).length = 8 := by simp; omega
  have hc := Ybaf.binary_BE_Uint64_z ⟨L, 0, none⟩ 8 8 (zs.take 8) w (by omega) (by omega) (fun i hi => by
    rw [Go.WideShapes.add_plain]
    exact cell_blk hL (map_get _ i hi)) (bytes_wf (fun z hz => hb z (List.mem_of_mem_take hz)))
  rw [List.take_take, Nat.min_self] at hc
  exact hc

theorem Vis.kept {w w' : World} {base B b off n c i : Nat} {acc : List (Nat × Nat)} {v : Value} {S : List Nat} (h : Vis w base B b off n c i acc v) (hK : Kept S w w') (hS : ∀ x ∈ S, B + 4 < x) (hv : ∀ x ∈ S, x ∉ obl v) : Vis w' base B b off n c i acc v := by
  have nn : ∀ k, k ≤ 4 → B + k ∉ S := fun k hk e => by have := hS _ e; omega
  obtain ⟨x, hx⟩ := h.hR
  exact ⟨hK.blk h.hE (nn 2 (by omega)), hK.blk h.hRB (nn 3 (by omega)), hK.blk h.hTB (nn 4 (by omega)), ⟨x, hK.blk hx (nn 1 (by omega))⟩, hK.blk h.hT (nn 0 (by omega)),
    hK.owns h.own (fun k hk e => hv k e (mem_obl.2 hk)), h.hb, Nat.le_trans h.hsz hK.size⟩

theorem Vis.read {w w' : World} {base B b off n c i i' : Nat} {acc : List (Nat × Nat)} {v : Value} {S : List Nat} (h : Vis w base B b off n c i acc v) (hK : Kept ((B + 1) :: S) w w') (hR : Rdr w' (B + 1) (some ⟨b, off, none⟩) n c i') (hS : ∀ x ∈ S, B + 4 < x) (hv : ∀ x ∈ S, x < base) : Vis w' base B b off n c i' acc v := by
  have nn : ∀ k, k ≤ 4 → k ≠ 1 → B + k ∉ (B + 1) :: S := fun k hk h1 e => by
    rcases List.mem_cons.1 e with e | e
    · omega
    · have := hS _ e; omega
  exact ⟨hK.blk h.hE (nn 2 (by omega) (by omega)), hK.blk h.hRB (nn 3 (by omega) (by omega)), hK.blk h.hTB (nn 4 (by omega) (by omega)), hR, hK.blk h.hT (nn 0 (by omega) (by omega)),
    hK.owns h.own (fun k hk e => by
      have h1 := (h.own.lt k hk).1
      have h2 := h.hb
      rcases List.mem_cons.1 e with e | e
      · omega
      · have := hv _ e; omega), h.hb, Nat.le_trans h.hsz hK.size⟩


/-- Where walkTxs's loop stands. -/
def TxsAt (w wr : World) (B b off n c i : Nat) (zs : List Int) (p : Nat) (acc : List (Nat × Nat)) : Prop :=
  p ≤ n ∧ Stands zs i acc p ∧ (∃ v, Vis wr (w.heap.size + 1) B b off n c p acc v) ∧ (∃ cur : List Value, cur.length = 4 ∧ wr.heap[w.heap.size]? = some (.cells cur.toArray 68 (0, 0))) ∧ Kept [B, B + 1] w wr

/-- What walkTxs hands back. -/
def TxsEnd (w : World) (B b off n c i : Nat) (zs : List Int) (e : Ending) (w' : World) : Prop :=
  Kept [B, B + 1] w w' ∧
  ((∃ a v, e = .returned (.iface 69 (.pointer (some a))) ∧ segs 1000 zs i = none ∧ w'.heap[B]? = some (.cells #[v] 23 (0, 0))) ∨
   (∃ l v, e = .returned .nilIface ∧ segs 1000 zs i = some l ∧ Vis w' (w.heap.size + 1) B b off n c n l v))

theorem not_among {B L : Nat} {l : List Nat} (hB : B + 4 < L) (hl : ∀ x ∈ l, L < x) : L ∉ B :: (B + 1) :: l := by
  intro e
  rcases List.mem_cons.1 e with e | e
  · omega
  · rcases List.mem_cons.1 e with e | e
    · omega
    · have := hl _ e; omega

theorem txs_err {w wx w2 : World} {B b off n c i : Nat} {zs : List Int} {v : Value} (hK : Kept [B, B + 1] w wx) (hT : wx.heap[B]? = some (.cells #[v] 23 (0, 0))) (hb : Below wx.heap.size wx w2) (hnone : segs 1000 zs i = none) (a : Addr) :
    TxsEnd w B b off n c i zs (.returned (.iface 69 (.pointer (some a)))) w2 :=
  ⟨hK.trans (Below.kept hb []) (fun _ h => h) (by simp), .inl ⟨a, v, rfl, hnone, (Below.kept hb []).blk hT (by simp)⟩⟩

set_option maxHeartbeats 1000000 in
theorem txs_any (F : Interp) {w : World} {B b off n c i : Nat} {zs : List Int} (hF : F.answers w.tape) (h : Vis w w.heap.size B b off n c i [] (.slice none 0 0)) (hS : Src w b off zs) (hz : zs.length = n) (hbs : Bytes zs) (hbB : b < B) (hi : i ≤ n) (hnc : n ≤ c) (hc : c ≤ maxLen) :
    Calls Ybaf.prog 18 #[.iface 43 (.pointer (some ⟨B + 1, 0, none⟩)), .int .i64 ((n : Int) - i), (.func (.func 19) #[] #[.pointer (some ⟨B + 2, 0, none⟩), .pointer (some ⟨B + 3, 0, none⟩), .pointer (some ⟨B + 4, 0, none⟩)])] w (TxsEnd w B b off n c i zs) := by
  have hc' := hc
  unfold maxLen at hc
  have hstart : TxsAt w (w.alloc (.cells #[.int .u8 0, .int .u8 0, .int .u8 0, .int .u8 0] 68)) B b off n c i zs i [] := by
    refine ⟨hi, stands_start _ _, ⟨.slice none 0 0, ?_⟩, ⟨[.int .u8 0, .int .u8 0, .int .u8 0, .int .u8 0], rfl, heap_alloc_new w _⟩, (Kept.refl _ w).alloc _⟩
    have h1 := h.kept ((Kept.refl [] w).alloc (.cells #[.int .u8 0, .int .u8 0, .int .u8 0, .int .u8 0] 68)) (by simp) (by simp)
    exact ⟨h1.hE, h1.hRB, h1.hTB, h1.hR, h1.hT, World.ownsRow_nil _ _ _ _, by have := h.hb; omega, by simp⟩
  go_enter Ybaf.func18, Ybaf.ntmps18
  go_wp2_with fail
  go_loopw [1, 8] (fun s1 s8 wr => ∃ (p : Nat) (acc : List (Nat × Nat)), s1 = .int .i64 ((n : Int) - p) ∧ s8 = .int .i64 acc.length ∧ Hid (TxsAt w wr B b off n c i zs p acc)) (fun s1 _ _ => (intOf s1).toNat)
  case atStart => exact ⟨i, [], rfl, rfl, hstart⟩
  case round =>
    obtain ⟨p, acc, rfl, rfl, hat⟩ := hrel
    have hp := hat.out.1
    have hst : Hid (Stands zs i acc p) := hat.out.2.1
    have hacc : acc.length ≤ 1000 := hst.out.1
    have hKr : Hid (Kept [B, B + 1] w wr) := hat.out.2.2.2.2
    have hFr : F.answers wr.tape := by rw [hKr.out.tape]; exact hF
    obtain ⟨v, hvis⟩ : ∃ v, Hid (Vis wr (w.heap.size + 1) B b off n c p acc v) := hat.out.2.2.1
    have hTr : Hid (wr.heap[B]? = some (.cells #[v] 23 (0, 0))) := hvis.out.hT
    by_cases hpn : p < n
    · by_cases hcnt : acc.length = 1000
      · have hnone : Hid (segs 1000 zs i = none) := hst.out.many (by omega) hcnt
        go_wp2_with fail
        refine (errorf1 F 1000 _ _ (by exact hFr) (by simp)).mono ?_
        rintro e w2 ⟨a, rfl, hb2⟩
        have HB : Hid (Below _ _ w2) := hb2
        clear hb2
        go_wp2_with fail
        go_ret
        exact txs_err (hKr.out.alloc _) ((Below.heap_alloc _ _ _ (lt_of_block hTr.out)).trans hTr.out) HB.out hnone.out a
      · by_cases h4 : n - p < 4
        · have hnone : Hid (segs 1000 zs i = none) := hst.out.short (by omega) (by omega)
          go_wp2_with fail
          refine (errorf2 F ((n : Int) - p) _ _ (by exact hFr) (by simp)).mono ?_
          rintro e w2 ⟨a, rfl, hb2⟩
          have HB : Hid (Below _ _ w2) := hb2
          clear hb2
          go_wp2_with fail
          go_ret
          exact txs_err (hKr.out.alloc _) ((Below.heap_alloc _ _ _ (lt_of_block hTr.out)).trans hTr.out) HB.out hnone.out a
        · obtain ⟨cur, hcur, hLr⟩ : ∃ cur : List Value, cur.length = 4 ∧ Hid (wr.heap[w.heap.size]? = some (.cells cur.toArray 68 (0, 0))) := hat.out.2.2.2.1
          have hBw : B + 4 < w.heap.size := lt_of_block h.hTB
          have hSr : Hid (Src wr b off zs) := hS.kept hKr.out (by omega) (by simp; omega)
          have HFull := full_any hvis.out.hR hLr.out hcur (by omega) (part_length (zs := zs) (p := p) (by omega)) (hSr.out.part p 4) part_one (by omega) (by omega) (by omega) hnc hc'
          clear hSr hLr
          go_wp2_with fail
          refine HFull.mono ?_
          rintro e w1 ⟨rfl, hR1, hL1, hK1⟩
          have HV1 : Hid (Vis w1 (w.heap.size + 1) B b off n c (p + 4) acc v) := hvis.out.read hK1 hR1 (by simp; omega) (by simp)
          have HK1 : Hid (Kept [B, B + 1] w w1) := hKr.out.trans hK1 (fun _ h => h) (fun x hx hlt => by simp at hx; rcases hx with rfl | rfl <;> simp; omega)
          have HL1 : Hid (w1.heap[w.heap.size]? = some (.cells (part zs p 4).toArray 68 (0, 0))) := hL1
          have H32 := u32_any (w := w1.drew) hbs (by omega) hL1
          have hbe := (be4_eq zs hbs p (by omega)).2
          clear HFull hR1 hL1 hK1
          go_wp2_with fail
          go_region_with (go_at_call 15; refine H32.mono ?_; rintro e w2 ⟨rfl, hb2⟩)
          have HV2 : Hid (Vis w2 (w.heap.size + 1) B b off n c (p + 4) acc v) := HV1.out.kept (((Kept.refl [] w1).drew).then (Below.kept hb2 [])) (by simp) (by simp)
          have HK2 : Hid (Kept [B, B + 1] w w2) := HK1.out.drew.trans (Below.kept hb2 []) (fun _ h => h) (by simp)
          have HL2 : Hid (w2.heap[w.heap.size]? = some (.cells (part zs p 4).toArray 68 (0, 0))) := (Below.kept hb2 []).blk HL1.out (by simp)
          have hF2 : F.answers w2.tape := by rw [HK2.out.tape]; exact hF
          clear HV1 HK1 H32 hb2 hvis hKr hFr hTr hat
          have hTr : Hid (w2.heap[B]? = some (.cells #[v] 23 (0, 0))) := HV2.out.hT
          by_cases hb0 : 0 < be4 zs p
          · by_cases hb1 : be4 zs p ≤ 65536
            · by_cases hb2 : p + 4 + be4 zs p ≤ n
              · have hstep : Hid (Stands zs i (acc ++ [(p + 4, be4 zs p)]) (p + 4 + be4 zs p)) := hst.out.step (by omega) (by omega) hb0 hb1 (by omega)
                have q0 : (((be4 zs p : Nat) : Int) == 0) = false := by rw [beq_eq_false_iff_ne]; omega
                have q1 : decide ((65536 : Int) < ((be4 zs p : Nat) : Int)) = false := by simp; omega
                have hvi := visit_any (be4 zs p) HV2.out hb0 (by omega) hnc hc' hacc
                have hob := HV2.out.own
                have HOB : Hid (∀ x ∈ obl v, w.heap.size < x) := fun x hx => by have := (hob.lt x (mem_obl.1 hx)).1; omega
                clear hob
                go_wp2_with fail
                refine hvi.mono ?_
                rintro e w3 ⟨v', rfl, hV3, hK3⟩
                have HL3 : Hid (∃ cur : List Value, cur.length = 4 ∧ w3.heap[w.heap.size]? = some (.cells cur.toArray 68 (0, 0))) :=
                  ⟨_, part_length (zs := zs) (p := p) (by omega), hK3.blk HL2.out (not_among hBw HOB.out)⟩
                have HAT : Hid (TxsAt w w3 B b off n c i zs (p + 4 + be4 zs p) (acc ++ [(p + 4, be4 zs p)])) :=
                  ⟨hb2, hstep.out, ⟨v', hV3⟩, HL3.out, HK2.out.trans hK3 (fun _ h => h) (fun x hx hlt => by
                    simp at hx
                    rcases hx with rfl | rfl | hx
                    · simp
                    · simp
                    · have := HOB.out x hx; omega)⟩
                clear hV3 hK3 hvi hstep HL3 HOB HV2 HK2 hF2 hTr hst
                go_wp2_with fail
                go_roundw
                case rel => exact ⟨p + 4 + be4 zs p, acc ++ [(p + 4, be4 zs p)], by go_num, by simp, HAT⟩
                case measure => simp [intOf]; omega
              · have hnone : Hid (segs 1000 zs i = none) := hst.out.cut (by omega) (by omega)
                have q0 : (((be4 zs p : Nat) : Int) == 0) = false := by rw [beq_eq_false_iff_ne]; omega
                have q1 : decide ((65536 : Int) < ((be4 zs p : Nat) : Int)) = false := by simp; omega
                go_wp2_with fail
                refine (errorf4 F (be4 zs p : Nat) ((n : Int) - p - 4) _ _ (by exact hF2) (by simp) (by simp)).mono ?_
                rintro e w3 ⟨a, rfl, hb3⟩
                have HB : Hid (Below _ _ w3) := hb3
                clear hb3
                go_wp2_with fail
                go_ret
                exact txs_err (HK2.out.alloc _) ((Below.heap_alloc _ _ _ (lt_of_block hTr.out)).trans hTr.out) HB.out hnone.out a
            · have hnone : Hid (segs 1000 zs i = none) := hst.out.bad (by omega) (.inr (by omega))
              have q0 : (((be4 zs p : Nat) : Int) == 0) = false := by rw [beq_eq_false_iff_ne]; omega
              have q1 : decide ((65536 : Int) < ((be4 zs p : Nat) : Int)) = true := by simp; omega
              go_wp2_with fail
              refine (errorf3 F 65536 (be4 zs p : Nat) _ _ (by exact hF2) (by simp) (by simp)).mono ?_
              rintro e w3 ⟨a, rfl, hb3⟩
              have HB : Hid (Below _ _ w3) := hb3
              clear hb3
              go_wp2_with fail
              go_ret
              exact txs_err (HK2.out.alloc _) ((Below.heap_alloc _ _ _ (lt_of_block hTr.out)).trans hTr.out) HB.out hnone.out a
          · have hnone : Hid (segs 1000 zs i = none) := hst.out.bad (by omega) (.inl (by omega))
            have q0 : (((be4 zs p : Nat) : Int) == 0) = true := by rw [beq_iff_eq]; omega
            go_wp2_with fail
            refine (errorf3 F 65536 (be4 zs p : Nat) _ _ (by exact hF2) (by simp) (by simp)).mono ?_
            rintro e w3 ⟨a, rfl, hb3⟩
            have HB : Hid (Below _ _ w3) := hb3
            clear hb3
            go_wp2_with fail
            go_ret
            exact txs_err (HK2.out.alloc _) ((Below.heap_alloc _ _ _ (lt_of_block hTr.out)).trans hTr.out) HB.out hnone.out a
    · have hend : Hid (TxsEnd w B b off n c i zs (.returned .nilIface) wr) := by
        have e : p = n := by omega
        subst e
        exact ⟨hKr.out, .inr ⟨acc, v, rfl, hst.out.done (by omega), hvis.out⟩⟩
      go_wp2_with fail
      go_ret
      exact hend.out
end Go.Proofs.YbulkcxpqFmt
