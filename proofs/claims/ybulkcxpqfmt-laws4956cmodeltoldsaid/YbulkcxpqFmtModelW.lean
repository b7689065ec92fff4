import Derived.Test.YbulkcxpqFmtParse
import Derived.Deep.QuietTactic
import Derived.BigQuiet
import Derived.LaidEqlPtr
namespace Go.Proofs.YbulkcxpqFmt
open Go.RowKit Go.Extern.Stop Go.Stop Go.Extern

theorem segs_mem : ∀ (k : Nat) (zs : List Int) (p : Nat) (l : List (Nat × Nat)), segs k zs p = some l → ∀ x ∈ l, 0 < x.2 ∧ x.1 + x.2 ≤ zs.length
  | 0, zs, p, l, h => by
    unfold segs at h
    split at h
    · cases h; simp
    · cases h
  | k + 1, zs, p, l, h => by
    unfold segs at h
    by_cases h1 : zs.length ≤ p
    · rw [if_pos h1] at h; cases h; simp
    · rw [if_neg h1] at h
      by_cases h2 : zs.length - p < 4
      · rw [if_pos h2] at h; cases h
      · rw [if_neg h2] at h
        by_cases h3 : be4 zs p = 0 ∨ 65536 < be4 zs p
        · rw [if_pos h3] at h; cases h
        · rw [if_neg h3] at h
          by_cases h4 : zs.length - (p + 4) < be4 zs p
          · rw [if_pos h4] at h; cases h
          · rw [if_neg h4] at h
            cases hs : segs k zs (p + 4 + be4 zs p) with
            | none => rw [hs] at h; cases h
            | some l' =>
              rw [hs] at h
              simp at h
              subst h
              intro x hx
              rcases List.mem_cons.1 hx with rfl | hx
              · simp; omega
              · exact segs_mem k zs _ l' hs x hx
theorem parse_mem {zs : List Int} {r : Int} {l : List (Nat × Nat)} (h : parse zs = some (r, l)) : ∀ x ∈ l, 0 < x.2 ∧ x.1 + x.2 ≤ zs.length := by
  unfold parse at h
  split at h
  · cases h
  · cases hs : segs 1000 zs 8 with
    | none => rw [hs] at h; cases h
    | some l' => rw [hs] at h; simp at h; obtain ⟨_, rfl⟩ := h; exact segs_mem _ _ _ _ hs

theorem pay_short (F : Interp) (R : Addr) (f : Value) (n : Nat) (w : World) (hF : F.answers w.tape) (h : n < 8) :
    Calls Ybaf.prog 12 #[.iface 43 (.pointer (some R)), .int .i64 n, f] w fun e w' => ∃ a, e = .returned (.tuple #[.int .u64 0, .iface 69 (.pointer (some a))]) ∧ Below w.heap.size w w' := by
  go_enter Ybaf.func12, Ybaf.ntmps12
  go_wp2_with fail
  refine (errorf0 F n _ _ (by exact hF) (by simp)).mono ?_
  rintro e w2 ⟨a, rfl, hb2⟩
  have HB : Hid (Below _ _ w2) := hb2
  clear hb2
  go_wp2_with fail
  go_ret2
  exact ⟨a, rfl, (((Below.refl _ w).alloc (Nat.le_refl _) _).alloc (by simp) _).trans (HB.out.mono (by simp; omega))⟩

theorem slicer_free (pa : Option Addr) (n c R T : Nat) (w : World) :
    Calls Ybaf.prog 13 #[.slice pa n c, .pointer (some ⟨R, 0, none⟩), .pointer (some ⟨T, 0, none⟩)] w fun en w' => en = .returned (.func (.func 19) #[] #[.pointer (some ⟨w.heap.size, 0, none⟩), .pointer (some ⟨w.heap.size + 1, 0, none⟩), .pointer (some ⟨w.heap.size + 2, 0, none⟩)]) ∧
      w' = ((w.alloc (.cells #[.slice pa n c] 24)).alloc (.cells #[.pointer (some ⟨R, 0, none⟩)] 43)).alloc (.cells #[.pointer (some ⟨T, 0, none⟩)] 49) := by
  go_enter Ybaf.func13, Ybaf.ntmps13
  go_wp2
  go_ret
  exact ⟨rfl, rfl⟩

theorem five (w : World) (o1 o2 o3 o4 o5 : Obj) : (((((w.alloc o1).alloc o2).alloc o3).alloc o4).alloc o5).heap[w.heap.size]? = some o1 ∧ Below w.heap.size w (((((w.alloc o1).alloc o2).alloc o3).alloc o4).alloc o5) := by
  refine ⟨?_, (((((Below.refl _ w).alloc (Nat.le_refl _) _).alloc (by simp) _).alloc (by simp; omega) _).alloc (by simp; omega) _).alloc (by simp; omega) _⟩
  rw [Below.heap_alloc _ _ _ (by simp; omega), Below.heap_alloc _ _ _ (by simp; omega), Below.heap_alloc _ _ _ (by simp; omega), Below.heap_alloc _ _ _ (by simp)]
  exact heap_alloc_new w o1

set_option maxHeartbeats 1000000 in
theorem readPayload_short (F : Interp) (pa : Option Addr) (n c : Nat) (w : World) (hF : F.answers w.tape) (h : n < 8) :
    Calls Ybaf.prog 7 #[.slice pa n c] w fun e w' => (∃ a, e = .returned (.tuple #[.int .u64 0, .slice none 0 0, .iface 69 (.pointer (some a))])) ∧ Below w.heap.size w w' := by
  have hn : n ≤ 9223372036854775807 := by omega
  go_enter Ybaf.func7, Ybaf.ntmps7
  go_wp2_with (first | (go_at_call 11; refine (new_any _ _ _ _).mono ?_; rintro e w' ⟨rfl, rfl⟩) | (go_at_call 13; refine (slicer_free _ _ _ _ _ _).mono ?_; rintro e w' ⟨rfl, rfl⟩))
  refine (pay_short F _ _ n _ (by exact hF) h).mono ?_
  rintro e w2 ⟨a, rfl, hb2⟩
  have hT : w2.heap[w.heap.size]? = some (.cells #[.slice none 0 0] 23 (0, 0)) := by
    rw [hb2.block w.heap.size (by simp; omega)]
    exact (five w _ _ _ _ _).1
  have HB : Hid (Below w.heap.size w w2) := (five w _ _ _ _ _).2.trans (hb2.mono (by simp; omega))
  have c1 := cell_of_one hT
  have c2 := free_of_one hT
  clear hT hb2
  go_wp2_with fail
  have c3 := World.cell?_setCell_same w2 ⟨w.heap.size, 0, none⟩ (.slice none 0 0) c1
  exact bodyPost_ret (v := .tuple #[.int .u64 0, .slice none 0 0, .iface 69 (.pointer (some a))]) (by simp [results, Ybaf.results7, go_sem, c3]) rfl ⟨⟨a, rfl⟩, HB.out.setCell (Nat.le_refl _) _⟩

theorem src_bytes {w : World} {b o : Nat} {t : List Int} (h : Src w b o t) : Lib.BytesIn w (some ⟨b, o, none⟩) t.length t := Lib.BytesIn.of_cells (fun i hi => by rw [Go.WideShapes.add_plain]; exact h i hi)
theorem src_row {w : World} {base g cap : Nat} {zs : List Int} (h : w.ownsRow base 5 1 (.slice (some ⟨g, 0, none⟩) zs.length cap) zs.length (zs.map (Value.int .u8))) : Src w g 0 zs := by
  intro j hj
  rw [Nat.zero_add, h.cellAt j (by omega)]
  simp [hj, List.getD]
theorem row_caps {w : World} {base g n cap : Nat} {e : TypeId} {xs : List Value} (h : w.ownsRow base e 1 (.slice (some ⟨g, 0, none⟩) n cap) n xs) : n ≤ cap ∧ cap ≤ maxLen := by
  rcases h.2 with ⟨h', _⟩ | ⟨g', cap', cur, h', _, _, h1, h2, _⟩
  · simp at h'
  · simp only [Value.slice.injEq, Option.some.injEq, Addr.mk.injEq, and_true, true_and] at h'
    obtain ⟨rfl, rfl⟩ := h'
    exact ⟨h1, h2⟩
theorem equal_in {w : World} {p1 p2 : Option Addr} {c c2 : Nat} {t : List Int} (h1 : Lib.BytesIn w p1 t.length t) (h2 : Lib.BytesIn w p2 t.length t) :
    Calls Ybaf.prog 8 #[.slice p1 t.length c, .slice p2 t.length c2] w fun e w' => e = .returned (.bool true) ∧ w' = w := by
  have := Ybaf.bytes_Equal_all p1 p2 t.length c t.length c2 t t w rfl rfl h1 h2
  rw [show (Lib.bytesOf t == Lib.bytesOf t) = true from by simp] at this
  exact this

/-- bytes.Clone, whatever the slice. -/
theorem clone_any (pa : Option Addr) (c : Nat) (zs : List Int) (w : World) (hp : pa = none → zs.length = 0) (hbig : zs.length ≤ 4194304) (hc : ∀ a, pa = some a → ∀ i, i < zs.length → w.cell? (a.add i) = some (.int .u8 (zs.getD i 0))) :
    Calls Ybaf.prog 9 #[.slice pa zs.length c] w fun e w' => ∃ ka kc, e = .returned (.slice ka zs.length kc) ∧ Below w.heap.size w w' ∧ (0 < zs.length → ∃ gk, ka = some ⟨gk, 0, none⟩ ∧ gk < w'.heap.size ∧ Src w' gk 0 zs ∧ zs.length ≤ kc ∧ kc ≤ maxLen) := by
  cases pa with
  | none =>
    refine (Ybaf.bytes_Clone_nil zs.length c w).mono ?_
    rintro e w' ⟨rfl, rfl⟩
    have h0 := hp rfl
    exact ⟨none, 0, by rw [h0], Below.refl _ _, fun h => by omega⟩
  | some a =>
    refine (Ybaf.bytes_Clone_at a zs.length c zs w rfl (by omega) (hc a rfl)).mono ?_
    rintro e w' ⟨v', rfl, hown, _, hB⟩
    obtain ⟨ka, kc, rfl⟩ := own_slice hown
    refine ⟨ka, kc, rfl, hB, fun h => ?_⟩
    obtain ⟨g, cap, hf, _, hlt⟩ := hown.form h
    simp only [Value.slice.injEq, true_and] at hf
    obtain ⟨rfl, rfl⟩ := hf
    obtain ⟨h1, h2⟩ := row_caps hown
    exact ⟨g, rfl, hlt, src_row hown, h1, h2⟩

set_option maxHeartbeats 1000000 in
theorem model_short (F : Interp) (pa : Option Addr) (c : Nat) (zs : List Int) (w : World) (hF : F.answers w.tape) (h8 : zs.length < 8) (hp : pa = none → zs.length = 0) (hc : ∀ a, pa = some a → ∀ i, i < zs.length → w.cell? (a.add i) = some (.int .u8 (zs.getD i 0))) (hlt : ∀ a, pa = some a → 0 < zs.length → a.block < w.heap.size) :
    Calls Ybaf.prog 4 #[.slice pa zs.length c] w fun e w' => e = .returned (.bool true) ∧ Below w.heap.size w w' := by
  have hcl := clone_any pa c zs w hp (by omega) hc
  have HC : Hid (∀ w', Below w.heap.size w w' → Lib.BytesIn w' pa zs.length zs) := by
    intro w' hB
    cases pa with
    | none => have := hp rfl; rw [this]; exact Lib.BytesIn.nil _ _ _
    | some a =>
      rcases Nat.eq_zero_or_pos zs.length with h0 | hpos
      · rw [h0]; exact Lib.BytesIn.nil _ _ _
      · exact Lib.BytesIn.of_cells (fun i hi => (hB.cell (p := a.add i) (by have := hlt a rfl hpos; unfold Addr.add; split <;> exact this)).trans (hc a rfl i hi))
  clear hc hlt hp
  generalize hn : zs.length = n at *
  have HN : Hid (zs.length = n) := hn
  clear hn
  go_enter Ybaf.func4, Ybaf.ntmps4
  go_wp2_with fail
  refine hcl.mono ?_
  rintro e w1 ⟨ka, kc, rfl, hB1, hk⟩
  have HB1 : Hid (Below w.heap.size w w1) := hB1
  have HK : Hid (0 < n → ∃ gk, ka = some ⟨gk, 0, none⟩ ∧ gk < w1.heap.size ∧ Src w1 gk 0 zs ∧ n ≤ kc ∧ kc ≤ maxLen) := hk
  clear hcl hB1 hk
  go_wp2_with fail
  refine (parse10_short ka n kc w1 h8).mono ?_
  rintro e w1' ⟨rfl, rfl⟩
  go_wp2_with fail
  refine (readPayload_short F pa n c w1' (by rw [HB1.out.tape]; exact hF) h8).mono ?_
  rintro e w2 ⟨⟨a, rfl⟩, hB2⟩
  have HB2 : Hid (Below w.heap.size w w2) := HB1.out.trans (hB2.mono HB1.out.size)
  have HKB : Hid (Lib.BytesIn w2 ka n zs) := by
    show Lib.BytesIn w2 ka n zs
    rcases Nat.eq_zero_or_pos n with h0 | hpos
    · rw [h0]; exact Lib.BytesIn.nil _ _ _
    · obtain ⟨gk, rfl, hgk, hs, _, _⟩ := HK.out hpos
      rw [← HN.out]
      exact src_bytes (fun j hj => (hB2.cell (p := ⟨gk, 0 + j, none⟩) hgk).trans (hs j hj))
  have HPB : Hid (Lib.BytesIn w2 pa n zs) := HC.out w2 HB2.out
  have HE : Calls Ybaf.prog 8 #[.slice ka n kc, .slice pa n c] w2 fun e w' => e = .returned (.bool true) ∧ w' = w2 := by
    have h1 := HKB.out
    have h2 := HPB.out
    rw [← HN.out] at h1 h2 ⊢
    exact equal_in h1 h2
  clear hB2 HKB HPB HC HK
  go_wp2_with fail
  refine HE.mono ?_
  rintro e w2' ⟨rfl, rfl⟩
  have kn : ∀ wx, (binOp .eql 23 (.slice none 0 0) (.slice none 0 0)).run Ybaf.prog wx = .ok (.bool true) wx := fun _ => by kernel_rfl
  go_wp2_with fail
  go_ret
  exact ⟨rfl, HB2.out⟩

theorem info5' : (Ybaf.prog.info? 5).map (fun i => (i.zero, i.size, i.bytes)) = some (some (.int .u8 0), 1, 1) := by kernel_rfl
theorem model_big (pa : Option Addr) (n c : Nat) (w : World) (h : 4194304 < n) :
    Calls Ybaf.prog 4 #[.slice pa n c] w fun e w' => e = .returned (.bool true) ∧ Below w.heap.size w w' := by
  go_enter Ybaf.func4, Ybaf.ntmps4
  go_wp2_with fail
  go_ret
  exact ⟨rfl, Below.refl _ _⟩

/-- What the last loop reads. -/
theorem model_facts {w0 w1 wr w3 : World} {b off n : Nat} {l : List (Nat × Nat)} {v1 v2 : Value} {gg cg : Nat} {zs : List Int} {r : Int} (hpar : parse zs = some (r, l)) (hz : zs.length = n) (h2 : Rows2 w1 wr l v1 v2) (hB : Below wr.heap.size wr w3)
    (ho : w3.ownsRow w0.heap.size 24 1 (.slice (some ⟨gg, 0, none⟩) l.length cg) l.length (l.map (seg b off))) (g1 c1 g2 c2 : Nat) (e1 : v1 = .slice (some ⟨g1, 0, none⟩) l.length c1) (e2 : v2 = .slice (some ⟨g2, 0, none⟩) l.length c2) :
    ∀ j, j < l.length → ∃ s k, 0 < k ∧ s + k ≤ n ∧ w3.cell? ⟨gg, j, none⟩ = some (.slice (some ⟨b, off + s, none⟩) k k) ∧ w3.cell? ⟨g1, j, none⟩ = some (.int .i64 (s : Nat)) ∧ w3.cell? ⟨g2, j, none⟩ = some (.int .i64 (k : Nat)) := by
  intro j hj
  subst e1 e2
  have hm := parse_mem hpar (l[j]) (List.getElem_mem hj)
  refine ⟨l[j].1, l[j].2, hm.1, by omega, ?_, ?_, ?_⟩
  · rw [ho.cellAt j (by omega)]; simp [hj, seg]
  · rw [hB.cell (p := ⟨g1, j, none⟩) (h2.o1.lt g1 rfl).2, h2.o1.cellAt j (by omega)]; simp [hj]
  · rw [hB.cell (p := ⟨g2, j, none⟩) (h2.o2.lt g2 rfl).2, h2.o2.cellAt j (by omega)]; simp [hj]

theorem run_neq_ptr_same {P : Program} (w : World) {tp te : TypeId} {j : TypeInfo} (a : Addr) (hp : P.underlying tp = some (.pointer te)) (hte : P.info? te = some j) :
    (binOp .neq tp (.pointer (some a)) (.pointer (some a))).run P w = .ok (.bool false) w := by
  have h : ∀ d : Nat, (Op.equalIn (d + 1) tp (.pointer (some a)) (.pointer (some a))).run P w = .ok true w := fun d => by
    simp [Op.equalIn, run_underlying hp, sizeOf, typeInfo, hte, run_sameAddr_same]
  simp only [binOp]
  simp [Op.equal, Op.maxDepth, h 9999]

theorem model_equal {w1 w2 w3 : World} {gk b off n kc c : Nat} {zs : List Int} (hn : zs.length = n) (hk : Src w1 gk 0 zs) (hg : gk < w1.heap.size) (h12 : Below w1.heap.size w1 w2) (hp : Src w2 b off zs) (hb : b < w2.heap.size) (h23 : Below w2.heap.size w2 w3) :
    Calls Ybaf.prog 8 #[.slice (some ⟨gk, 0, none⟩) n kc, .slice (some ⟨b, off, none⟩) n c] w3 fun e w' => e = .returned (.bool true) ∧ w' = w3 := by
  subst hn
  have := h12.size
  refine equal_in (src_bytes (fun j hj => ?_)) (src_bytes (fun j hj => (h23.cell (p := ⟨b, off + j, none⟩) hb).trans (hp j hj)))
  rw [h23.cell (p := ⟨gk, 0 + j, none⟩) (by show gk < _; omega), h12.cell (p := ⟨gk, 0 + j, none⟩) hg]
  exact hk j hj

set_option maxHeartbeats 1000000 in
theorem model_any (F : Interp) (b off c : Nat) (zs : List Int) (w : World) (hF : F.answers w.tape) (h8 : 8 ≤ zs.length) (hbig : zs.length ≤ 4194304) (hbs : Bytes zs) (hb : b < w.heap.size) (hS : Src w b off zs) (hnc : zs.length ≤ c) (hcm : c ≤ maxLen) :
    Calls Ybaf.prog 4 #[.slice (some ⟨b, off, none⟩) zs.length c] w fun e w' => e = .returned (.bool true) ∧ Below w.heap.size w w' := by
  have hcl := clone_any (some ⟨b, off, none⟩) c zs w (by simp) hbig (fun a ha i hi => by cases ha; rw [Go.WideShapes.add_plain]; exact hS i hi)
  have HS : Hid (Src w b off zs) := hS
  clear hS
  have hcm' := hcm
  unfold maxLen at hcm'
  generalize hn : zs.length = n at *
  have HN : Hid (zs.length = n) := hn
  clear hn
  obtain ⟨i5, hi5, _, _, _⟩ := info_parts info5'
  go_enter Ybaf.func4, Ybaf.ntmps4
  go_wp2_with fail
  refine hcl.mono ?_
  rintro e w1 ⟨ka, kc, rfl, hB1, hk⟩
  obtain ⟨gk, rfl, hgk, hsk, hkc, hkm⟩ := hk (by omega)
  have HB1 : Hid (Below w.heap.size w w1) := hB1
  have HSK : Hid (Src w1 gk 0 zs) := hsk
  have hp10 := parse10_any (c := kc) hsk HN.out hbs hgk h8 hbig hkc hkm
  clear hcl hB1 hk hsk
  go_wp2_with fail
  refine hp10.mono ?_
  rintro e w2 ⟨hB2, hend2⟩
  have HB2 : Hid (Below w1.heap.size w1 w2) := hB2
  have HB02 : Hid (Below w.heap.size w w2) := HB1.out.trans (hB2.mono HB1.out.size)
  have hsz2 : w.heap.size ≤ w2.heap.size := HB02.out.size
  have HS2 : Hid (Src w2 b off zs) := fun j hj => (HB02.out.cell (p := ⟨b, off + j, none⟩) hb).trans (HS.out j hj)
  have hrd := readPayload_any F (w := w2) (c := c) (by rw [HB02.out.tape]; exact hF) HS2.out HN.out hbs (by omega) hnc hcm
  clear hp10 hB2
  rcases hend2 with ⟨rfl, hnone⟩ | ⟨r, l, v1, v2, rfl, hsome, hrows⟩
  · go_wp2_with fail
    refine hrd.mono ?_
    rintro e w3 ⟨hB3, hend3⟩
    have HE : Calls Ybaf.prog 8 #[.slice (some ⟨gk, 0, none⟩) n kc, .slice (some ⟨b, off, none⟩) n c] w3 fun e w' => e = .returned (.bool true) ∧ w' = w3 := model_equal HN.out HSK.out hgk HB2.out HS2.out (by omega) hB3
    have HB3 : Hid (Below w.heap.size w w3) := HB02.out.trans (hB3.mono hsz2)
    clear hrd hB3
    rcases hend3 with ⟨a, rfl, _⟩ | ⟨r, l, v, rfl, hsome, _⟩
    · go_wp2_with fail
      refine HE.mono ?_
      rintro e w3' ⟨rfl, rfl⟩
      have kn : ∀ wx, (binOp .eql 23 (.slice none 0 0) (.slice none 0 0)).run Ybaf.prog wx = .ok (.bool true) wx := fun _ => by kernel_rfl
      go_wp2_with fail
      go_ret
      exact ⟨rfl, HB3.out⟩
    · exfalso
      rw [hnone] at hsome
      cases hsome
  · obtain ⟨a1, c1, rfl⟩ := own_slice hrows.o1
    obtain ⟨a2, c2, rfl⟩ := own_slice hrows.o2
    have HRW : Hid (Rows2 w1 w2 l (.slice a1 l.length c1) (.slice a2 l.length c2)) := hrows
    have HPS : Hid (parse zs = some (r, l)) := hsome
    clear hrows hsome
    go_wp2_with fail
    refine hrd.mono ?_
    rintro e w3 ⟨hB3, hend3⟩
    have HE : Calls Ybaf.prog 8 #[.slice (some ⟨gk, 0, none⟩) n kc, .slice (some ⟨b, off, none⟩) n c] w3 fun e w' => e = .returned (.bool true) ∧ w' = w3 := model_equal HN.out HSK.out hgk HB2.out HS2.out (by omega) hB3
    have HB3 : Hid (Below w.heap.size w w3) := HB02.out.trans (hB3.mono hsz2)
    have HB23 : Hid (Below w2.heap.size w2 w3) := hB3
    clear hrd hB3
    rcases hend3 with ⟨a, rfl, hnone⟩ | ⟨r', l', v, rfl, hsome', hown⟩
    · exfalso
      rw [HPS.out] at hnone
      cases hnone
    · have hrl : r = r' ∧ l = l' := by
        rw [HPS.out] at hsome'
        simp only [Option.some.injEq, Prod.mk.injEq] at hsome'
        exact hsome'
      obtain ⟨rfl, rfl⟩ := hrl
      obtain ⟨a3, c3, rfl⟩ := own_slice hown
      clear hsome'
      by_cases hl0 : 0 < l.length
      · obtain ⟨g1, d1, hf1, _, _⟩ := HRW.out.o1.form hl0
        obtain ⟨g2, d2, hf2, _, _⟩ := HRW.out.o2.form hl0
        obtain ⟨g3, d3, hf3, _, _⟩ := hown.form hl0
        simp only [Value.slice.injEq, true_and] at hf1 hf2 hf3
        obtain ⟨rfl, rfl⟩ := hf1
        obtain ⟨rfl, rfl⟩ := hf2
        obtain ⟨rfl, rfl⟩ := hf3
        have HF : Hid (∀ j, j < l.length → ∃ s k, 0 < k ∧ s + k ≤ n ∧ w3.cell? ⟨g3, j, none⟩ = some (.slice (some ⟨b, off + s, none⟩) k k) ∧ w3.cell? ⟨g1, j, none⟩ = some (.int .i64 (s : Nat)) ∧ w3.cell? ⟨g2, j, none⟩ = some (.int .i64 (k : Nat))) := model_facts HPS.out HN.out HRW.out HB23.out hown g1 c1 g2 c2 rfl rfl
        have hll : l.length ≤ 9223372036854775807 := by have := row_caps HRW.out.o1; unfold maxLen at this; omega
        clear hown HRW HB23
        go_wp2_with fail
        refine HE.mono ?_
        rintro e w4 ⟨rfl, hw4⟩
        subst hw4
        clear HE
        go_wp2_with fail
        go_loopw [11] (fun s11 wr => ∃ j : Nat, j ≤ l.length ∧ s11 = .int .i64 j ∧ Hid (∃ q, wr = w4.drewN q)) (fun s11 _ => l.length - (intOf s11).toNat)
        case atStart => exact ⟨0, Nat.zero_le _, rfl, 0, rfl⟩
        case round =>
          obtain ⟨j, hjl, rfl, hwr⟩ := hrel
          by_cases hj : j < l.length
          · obtain ⟨s, k, hk0, hsk, hc1', hc2', hc3'⟩ := HF.out j hj
            have hc1 : wr.cell? ⟨g3, j, none⟩ = some (.slice (some ⟨b, off + s, none⟩) k k) := by obtain ⟨q, rfl⟩ := hwr.out; exact hc1'
            have hc2 : wr.cell? ⟨g1, j, none⟩ = some (.int .i64 (s : Nat)) := by obtain ⟨q, rfl⟩ := hwr.out; exact hc2'
            have hc3 : wr.cell? ⟨g2, j, none⟩ = some (.int .i64 (k : Nat)) := by obtain ⟨q, rfl⟩ := hwr.out; exact hc3'
            clear hc1' hc2' hc3'
            have hpt := fun wx => run_neq_ptr_same (P := Ybaf.prog) wx (tp := 40) ⟨b, off + s, none⟩ Ybaf.underlying40 hi5
            have hsn : (s : Int) < (n : Int) := by omega
            have hjz : (j : Int) < (l.length : Int) := by omega
            go_wp2_with fail
            go_quiet (fail)
            go_wp2_with fail
            go_roundw
            case rel => exact ⟨j + 1, by omega, by go_num, by obtain ⟨q, rfl⟩ := hwr.out; exact ⟨_, World.drewN_drewN ..⟩⟩
            case measure => simp [intOf]; omega
          · go_wp2_with fail
            go_ret
            obtain ⟨q, rfl⟩ := hwr.out
            exact ⟨rfl, below_drewN HB3.out _⟩
      · clear hown HRW HB23
        go_wp2_with fail
        refine HE.mono ?_
        rintro e w3' ⟨rfl, rfl⟩
        go_wp2_with fail
        refine wp_loop_rounds 1 ?_
        rw [rounds_succ]
        go_wp2_with fail
        go_ret
        exact ⟨rfl, HB3.out⟩
end Go.Proofs.YbulkcxpqFmt
