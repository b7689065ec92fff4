import Derived.Test.YbulkcxpqFmtTxs
namespace Go.Proofs.YbulkcxpqFmt
open Go.RowKit Go.Extern.Stop Go.Stop Go.Extern

/-- What a payload reads as. -/
def parse (zs : List Int) : Option (Int × List (Nat × Nat)) := if zs.length < 8 then none else (segs 1000 zs 8).map (fun l => (Lib.beZ (zs.take 8), l))
theorem parse_short {zs : List Int} (h : zs.length < 8) : parse zs = none := by simp [parse, h]
theorem parse_none {zs : List Int} (h : segs 1000 zs 8 = none) : parse zs = none := by simp [parse, h]
theorem parse_some {zs : List Int} {l : List (Nat × Nat)} (h8 : ¬ zs.length < 8) (h : segs 1000 zs 8 = some l) : parse zs = some (Lib.beZ (zs.take 8), l) := by simp [parse, h, h8]

def PayEnd (w : World) (B b off n c : Nat) (zs : List Int) (e : Ending) (w' : World) : Prop :=
  Kept [B, B + 1] w w' ∧
  ((∃ a v, e = .returned (.tuple #[.int .u64 0, .iface 69 (.pointer (some a))]) ∧ parse zs = none ∧ w'.heap[B]? = some (.cells #[v] 23 (0, 0))) ∨
   (∃ r l v base, e = .returned (.tuple #[.int .u64 r, .nilIface]) ∧ parse zs = some (r, l) ∧ Vis w' base B b off n c n l v))

theorem Vis.rebase {w : World} {base B b off n c i : Nat} (h : Vis w base B b off n c i [] (.slice none 0 0)) : Vis w w.heap.size B b off n c i [] (.slice none 0 0) :=
  ⟨h.hE, h.hRB, h.hTB, h.hR, h.hT, World.ownsRow_nil _ _ _ _, Nat.le_trans h.hb h.hsz, Nat.le_refl _⟩

set_option maxHeartbeats 1000000 in
theorem pay_any (F : Interp) {w : World} {B b off n c : Nat} {zs : List Int} (hF : F.answers w.tape) (h : Vis w w.heap.size B b off n c 0 [] (.slice none 0 0)) (hS : Src w b off zs) (hz : zs.length = n) (hbs : Bytes zs) (hbB : b < B) (hnc : n ≤ c) (hc : c ≤ maxLen) :
    Calls Ybaf.prog 12 #[.iface 43 (.pointer (some ⟨B + 1, 0, none⟩)), .int .i64 n, .func (.func 19) #[] #[.pointer (some ⟨B + 2, 0, none⟩), .pointer (some ⟨B + 3, 0, none⟩), .pointer (some ⟨B + 4, 0, none⟩)]] w (PayEnd w B b off n c zs) := by
  have hc' := hc
  unfold maxLen at hc
  have hBw : B + 4 < w.heap.size := lt_of_block h.hTB
  by_cases h8 : n < 8
  · have hnone : Hid (parse zs = none) := parse_short (by omega)
    have hT : Hid (w.heap[B]? = some (.cells #[.slice none 0 0] 23 (0, 0))) := h.hT
    go_enter Ybaf.func12, Ybaf.ntmps12
    go_wp2_with fail
    refine (errorf0 F n _ _ (by exact hF) (by simp)).mono ?_
    rintro e w2 ⟨a, rfl, hb2⟩
    have HB : Hid (Below _ _ w2) := hb2
    clear hb2
    go_wp2_with fail
    go_ret2
    refine ⟨(((Kept.refl _ w).alloc _).alloc _).trans (Below.kept HB.out []) (fun _ h => h) (by simp), .inl ⟨a, .slice none 0 0, rfl, hnone.out, (Below.kept HB.out []).blk ?_ (by simp)⟩⟩
    exact (Below.heap_alloc _ _ _ (by simp; omega)).trans ((Below.heap_alloc _ _ _ (by omega)).trans hT.out)
  · have hv0 := h.kept ((Kept.refl [] w).alloc (.cells #[.int .u8 0, .int .u8 0, .int .u8 0, .int .u8 0, .int .u8 0, .int .u8 0, .int .u8 0, .int .u8 0] 56)) (by simp) (by simp)
    have hS0 := hS.kept ((Kept.refl [] w).alloc (.cells #[.int .u8 0, .int .u8 0, .int .u8 0, .int .u8 0, .int .u8 0, .int .u8 0, .int .u8 0, .int .u8 0] 56)) (by omega) (by simp)
    have HFull := full_any (cur := [.int .u8 0, .int .u8 0, .int .u8 0, .int .u8 0, .int .u8 0, .int .u8 0, .int .u8 0, .int .u8 0]) (t := 56) (m := 8) hv0.hR (heap_alloc_new w _) rfl (by omega) (part_length (zs := zs) (p := 0) (k := 8) (by omega)) (hS0.part 0 8) part_one (by omega) (by omega) (by omega) hnc hc'
    have HV0 : Hid (Vis (w.alloc _) _ B b off n c 0 [] (.slice none 0 0)) := hv0.rebase
    have HS0 : Hid (Src _ b off zs) := hS0
    clear hv0 hS0
    go_enter Ybaf.func12, Ybaf.ntmps12
    go_wp2_with fail
    refine HFull.mono ?_
    rintro e w1 ⟨rfl, hR1, hL1, hK1⟩
    have HV1 := (HV0.out.read (S := [w.heap.size]) hK1 hR1 (by simp; omega) (by simp)).rebase
    have hsz1 : w.heap.size + 1 ≤ w1.heap.size := by have := hK1.size; simpa using this
    have HL1 : Hid (w1.heap[w.heap.size]? = some (.cells (part zs 0 8).toArray 56 (0, 0))) := hL1
    have HK1 : Hid (Kept [B, B + 1] w w1) := ((Kept.refl [] w).alloc _).trans hK1 (by simp) (fun x hx hlt => by simp at hx; rcases hx with rfl | rfl <;> simp; omega)
    have HS1 := hS.kept HK1.out (by omega) (by simp; omega)
    have hF1 : F.answers w1.tape := by rw [HK1.out.tape]; exact hF
    have HT := txs_any F (i := 8) hF1 HV1 HS1 hz hbs hbB (by omega) hnc hc'
    clear HFull HV0 HS0 hR1 hL1 hK1 HV1 HS1
    go_wp2_with fail
    rw [show ((8 : Nat) : Int) = 8 from rfl] at HT
    refine HT.mono ?_
    rintro e w2 ⟨hK2, hend⟩
    have HK2 : Hid (Kept [B, B + 1] w1 w2) := hK2
    clear hK2
    have HKw : Hid (Kept [B, B + 1] w w2) := HK1.out.then HK2.out
    rcases hend with ⟨a, v, rfl, hnone, hT2⟩ | ⟨l, v, rfl, hsome, hV2⟩
    · have HN : Hid (parse zs = none) := parse_none hnone
      have HT2 : Hid (w2.heap[B]? = _) := hT2
      clear hnone hT2
      go_wp2_with fail
      go_ret2
      exact ⟨HKw.out, .inl ⟨a, v, rfl, HN.out, HT2.out⟩⟩
    · have HN : Hid (parse zs = some (Lib.beZ (zs.take 8), l)) := parse_some (by omega) hsome
      have HV2 : Hid (Vis w2 (w1.heap.size + 1) B b off n c n l v) := hV2
      have HL2 := HK2.out.blk HL1.out (by simp; omega)
      have H64 := u64_any (w := w2.drew) hbs (by omega) HL2
      clear hsome hV2 HL2
      go_wp2_with fail
      go_region_with (go_at_call 14; refine H64.mono ?_; rintro e w3 ⟨rfl, hb3⟩)
      have HK3 : Hid (Kept [] w2 w3) := ((Kept.refl [] w2).drew).then (Below.kept hb3 [])
      clear hb3 H64
      go_wp2_with fail
      go_ret2
      exact ⟨HKw.out.trans HK3.out (fun _ h => h) (by simp), .inr ⟨_, l, v, _, rfl, HN.out, HV2.out.kept HK3.out (by simp) (by simp)⟩⟩

set_option maxHeartbeats 400000 in
theorem slicer_any (e r t : Value) (b off n c R T : Nat) (w : World) (he : e = .slice (some ⟨b, off, none⟩) n c) (hr : r = .pointer (some ⟨R, 0, none⟩)) (ht : t = .pointer (some ⟨T, 0, none⟩)) :
    Calls Ybaf.prog 13 #[e, r, t] w fun en w' => en = .returned (.func (.func 19) #[] #[.pointer (some ⟨w.heap.size, 0, none⟩), .pointer (some ⟨w.heap.size + 1, 0, none⟩), .pointer (some ⟨w.heap.size + 2, 0, none⟩)]) ∧
      w' = ((w.alloc (.cells #[e] 24)).alloc (.cells #[r] 43)).alloc (.cells #[t] 49) := by
  subst he hr ht
  go_enter Ybaf.func13, Ybaf.ntmps13
  go_wp2
  go_ret
  exact ⟨rfl, rfl⟩

/-- What readPayload hands back. -/
def ReadEnd (w : World) (b off : Nat) (zs : List Int) (e : Ending) (w' : World) : Prop :=
  Below w.heap.size w w' ∧
  ((∃ a, e = .returned (.tuple #[.int .u64 0, .slice none 0 0, .iface 69 (.pointer (some a))]) ∧ parse zs = none) ∨
   (∃ r l v, e = .returned (.tuple #[.int .u64 r, v, .nilIface]) ∧ parse zs = some (r, l) ∧ w'.ownsRow w.heap.size 24 1 v l.length (l.map (seg b off))))

/-- The world in which walkPayload is called. -/
def startW (w : World) (b off n c : Nat) : World :=
  (((((w.alloc (.cells #[.slice none 0 0] 23)).alloc (.cells #[.slice (some ⟨b, off, none⟩) n c, .int .i64 0, .int .i64 (-1)] 53)).alloc (.cells #[.slice (some ⟨b, off, none⟩) n c] 24)).alloc
    (.cells #[.pointer (some ⟨w.heap.size + 1, 0, none⟩)] 43)).alloc (.cells #[.pointer (some ⟨w.heap.size, 0, none⟩)] 49))

theorem start_kept (w : World) (b off n c : Nat) : Kept [] w (startW w b off n c) := (((((Kept.refl [] w).alloc _).alloc _).alloc _).alloc _).alloc _
theorem start_vis (w : World) (b off n c : Nat) : Vis (startW w b off n c) (startW w b off n c).heap.size w.heap.size b off n c 0 [] (.slice none 0 0) := by
  have g : ∀ (k : Nat) (o1 o2 o3 o4 o5 : Obj), (((((w.alloc o1).alloc o2).alloc o3).alloc o4).alloc o5).heap[w.heap.size + k]? = [o1, o2, o3, o4, o5][k]? := by
    intro k o1 o2 o3 o4 o5
    show (((((w.heap.push o1).push o2).push o3).push o4).push o5)[w.heap.size + k]? = _
    simp only [Array.getElem?_push, Array.size_push]
    match k with
    | 0 => rw [if_neg (by omega), if_neg (by omega), if_neg (by omega), if_neg (by omega), if_pos (by omega)]; rfl
    | 1 => rw [if_neg (by omega), if_neg (by omega), if_neg (by omega), if_pos (by omega)]; rfl
    | 2 => rw [if_neg (by omega), if_neg (by omega), if_pos (by omega)]; rfl
    | 3 => rw [if_neg (by omega), if_pos (by omega)]; rfl
    | 4 => rw [if_pos (by omega)]; rfl
    | k + 5 => rw [if_neg (by omega), if_neg (by omega), if_neg (by omega), if_neg (by omega), if_neg (by omega), Array.getElem?_eq_none (by omega)]; simp
  exact ⟨g 2 _ _ _ _ _, g 3 _ _ _ _ _, g 4 _ _ _ _ _, ⟨_, g 1 _ _ _ _ _⟩, g 0 _ _ _ _ _, World.ownsRow_nil _ _ _ _, by simp [startW], Nat.le_refl _⟩

theorem own_base {w : World} {base base' : Nat} {e : TypeId} {size : Nat} {v : Value} {n : Nat} {xs : List Value} (hb : base' ≤ base) (h : w.ownsRow base e size v n xs) : w.ownsRow base' e size v n xs := by
  refine ⟨h.1, ?_⟩
  rcases h.2 with hn | ⟨g, cap, cur, hv, hg, r⟩
  · exact .inl hn
  · exact .inr ⟨g, cap, cur, hv, Nat.le_trans hb hg, r⟩

set_option maxHeartbeats 1000000 in
theorem readPayload_any (F : Interp) {w : World} {b off n c : Nat} {zs : List Int} (hF : F.answers w.tape) (hS : Src w b off zs) (hz : zs.length = n) (hbs : Bytes zs) (hb : b < w.heap.size) (hnc : n ≤ c) (hc : c ≤ maxLen) :
    Calls Ybaf.prog 7 #[.slice (some ⟨b, off, none⟩) n c] w (ReadEnd w b off zs) := by
  have hv := start_vis w b off n c
  have hk := start_kept w b off n c
  have hp := pay_any F (w := startW w b off n c) (by rw [hk.tape]; exact hF) hv (hS.kept hk hb (by simp)) hz hbs hb hnc hc
  have HK : Hid (Kept [] w (startW w b off n c)) := hk
  clear hv hk
  go_enter Ybaf.func7, Ybaf.ntmps7
  go_wp2_with (first | (go_at_call 11; refine (new_any _ _ _ _).mono ?_; rintro e w' ⟨rfl, rfl⟩) | (go_at_call 13; refine (slicer_any _ _ _ b off n c _ _ _ rfl rfl rfl).mono ?_; rintro e w' ⟨rfl, rfl⟩))
  refine hp.mono ?_
  rintro e w2 ⟨hK2, hend⟩
  have HB : Hid (Below w.heap.size w w2) := (HK.out.trans (S := []) hK2 (by simp) (fun x hx hlt => by simp at hx; omega)).below (Nat.le_refl _) (by simp)
  clear hK2 hp HK
  rcases hend with ⟨a, v, rfl, hnone, hT2⟩ | ⟨r, l, v, base, rfl, hsome, hV2⟩
  · have HN : Hid (parse zs = none) := hnone
    have c1 := cell_of_one hT2
    have c2 := free_of_one hT2
    have HT2 : Hid (w2.heap[w.heap.size]? = _) := hT2
    clear hnone hT2
    go_wp2_with fail
    have c3 := World.cell?_setCell_same w2 ⟨w.heap.size, 0, none⟩ (.slice none 0 0) c1
    exact bodyPost_ret (v := .tuple #[.int .u64 0, .slice none 0 0, .iface 69 (.pointer (some a))]) (by simp [results, Ybaf.results7, go_sem, c3]) rfl ⟨HB.out.setCell (Nat.le_refl _) _, .inl ⟨a, rfl, HN.out⟩⟩
  · have HN : Hid (parse zs = some (r, l)) := hsome
    have HV2 : Hid (Vis w2 base w.heap.size b off n c n l v) := hV2
    obtain ⟨ao, cp, rfl⟩ := own_slice hV2.own
    have c1 := cell_of_one hV2.hT
    have c2 := free_of_one hV2.hT
    clear hsome hV2
    go_wp2_with fail
    go_region
    go_wp2
    have c3 := World.cell?_setCell_same w2 ⟨w.heap.size, 0, none⟩ (.slice ao l.length cp) c1
    have ho := ownsRow_setCell_other HV2.out.own (a := ⟨w.heap.size, 0, none⟩) (fun e => by have h1 := (HV2.out.own.lt _ e).1; have h2 := HV2.out.hb; simp at h1; omega) (.slice ao l.length cp)
    refine bodyPost_ret (v := .tuple #[.int .u64 r, .slice ao l.length cp, .nilIface]) (by simp [results, Ybaf.results7, go_sem, c3]) rfl ⟨(HB.out.setCell (Nat.le_refl _) _).drew, .inr ⟨r, l, _, rfl, HN.out, ?_⟩⟩
    exact own_base (by have := HV2.out.hb; omega) ho
end Go.Proofs.YbulkcxpqFmt
