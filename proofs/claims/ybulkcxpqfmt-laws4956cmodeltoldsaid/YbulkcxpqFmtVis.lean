import Derived.Test.YbulkcxpqFmtFull
import Derived.Deep.CutRange
import Derived.Deep.DeepCutAuto
namespace Go.Proofs.YbulkcxpqFmt
open Go.RowKit

/-- A transaction as a part of the payload's memory. -/
def seg (b off : Nat) (p : Nat × Nat) : Value := .slice (some ⟨b, off + p.1, none⟩) p.2 p.2

def obl (v : Value) : List Nat := v.ownBlock.toList
theorem mem_obl {v : Value} {k : Nat} : k ∈ obl v ↔ v.ownBlock = some k := by simp [obl]

/-- What the walk's visit stands on. -/
structure Vis (w : World) (base B b off n c i : Nat) (acc : List (Nat × Nat)) (v : Value) : Prop where
  hE : w.heap[B + 2]? = some (.cells #[.slice (some ⟨b, off, none⟩) n c] 24 (0, 0))
  hRB : w.heap[B + 3]? = some (.cells #[.pointer (some ⟨B + 1, 0, none⟩)] 43 (0, 0))
  hTB : w.heap[B + 4]? = some (.cells #[.pointer (some ⟨B, 0, none⟩)] 49 (0, 0))
  hR : Rdr w (B + 1) (some ⟨b, off, none⟩) n c i
  hT : w.heap[B]? = some (.cells #[v] 23 (0, 0))
  own : w.ownsRow base 24 1 v acc.length (acc.map (seg b off))
  hb : B + 5 ≤ base
  hsz : base ≤ w.heap.size

/-- What '*txs = append(*txs, e[at:at+n:at+n])' leaves. -/
def AppR (W wx : World) (base B b off : Nat) (acc : List (Nat × Nat)) (i k : Nat) (v : Value) : Prop :=
  ∃ v', wx.ownsRow base 24 1 v' (acc ++ [(i, k)]).length ((acc ++ [(i, k)]).map (seg b off)) ∧ wx.heap[B]? = some (.cells #[v'] 23 (0, 0)) ∧ Kept (B :: obl v) W wx

theorem app_kept {W w1 : World} {o : Obj} {v : Value} (h : ((W.alloc o).drew).grownBy w1 v.ownBlock) : Kept (obl v) W w1 :=
  (((Kept.refl (obl v) W).alloc o).drew).grown h (fun _ hk _ => mem_obl.2 hk)

theorem appR_mk {W w1 : World} {base B b off : Nat} {acc : List (Nat × Nat)} {i k : Nat} {v v0 v' : Value} (hB : w1.heap[B]? = some (.cells #[v0] 23 (0, 0))) (hK : Kept (obl v) W w1)
    (hb : B < base) (hO : w1.ownsRow base 24 1 v' (acc.length + 1) (acc.map (seg b off) ++ [seg b off (i, k)])) : AppR W (w1.setCell ⟨B, 0, none⟩ v') base B b off acc i k v := by
  refine ⟨v', ?_, one_setCell hB, (hK.mono (fun x hx _ => List.mem_cons_of_mem _ hx)).setCell (by simp) _⟩
  rw [List.map_append, List.length_append]
  exact ownsRow_setCell_other hO (fun e => by have := (hO.lt _ e).1; simp at this; omega) _

theorem info24 : (Ybaf.prog.info? 24).map (fun i => (i.zero, i.size, i.bytes)) = some (some (.slice none 0 0), 1, 24) := by kernel_rfl

set_option maxHeartbeats 1000000 in
theorem visit_any {w : World} {base B b off n c i : Nat} {acc : List (Nat × Nat)} {v : Value} (k : Nat) (h : Vis w base B b off n c i acc v) (hk : 0 < k) (hik : i + k ≤ n) (hnc : n ≤ c) (hc : c ≤ maxLen) (hacc : acc.length ≤ 1000) :
    Calls Ybaf.prog 19 #[.int .i64 k, .pointer (some ⟨B + 2, 0, none⟩), .pointer (some ⟨B + 3, 0, none⟩), .pointer (some ⟨B + 4, 0, none⟩)] w fun e w' => ∃ v', e = .returned .nilIface ∧
      Vis w' base B b off n c (i + k) (acc ++ [(i, k)]) v' ∧ Kept (B :: (B + 1) :: obl v) w w' := by
  obtain ⟨hE, hRB, hTB, hR, hT, own, hbase, hsz0⟩ := h
  have e0 := cell_of_one hE
  have e1 := cell_of_one hRB
  have e2 := cell_of_one hTB
  have e3 := cell_of_one hT
  have e4 := free_of_one hT
  have hn : n ≤ maxLen := Nat.le_trans hnc hc
  have hlen := fun q => len_any (w := w.drewN q) hR (by omega) hn
  have HL : Hid (∀ q : Nat, Calls Ybaf.prog 20 _ (w.drewN q) _) := hlen
  have HE : Hid (w.heap[B + 2]? = _) := hE
  have HRB : Hid (w.heap[B + 3]? = _) := hRB
  have HTB : Hid (w.heap[B + 4]? = _) := hTB
  have HT : Hid (w.heap[B]? = _) := hT
  have HR : Hid (Rdr w (B + 1) (some ⟨b, off, none⟩) n c i) := hR
  have HO : Hid (w.ownsRow base 24 1 v acc.length (acc.map (seg b off))) := own
  clear hE hRB hTB hT hR own hlen
  unfold maxLen at hn hc
  have hin : i ≤ n := by omega
  go_enter Ybaf.func19, Ybaf.ntmps19
  go_wp2
  go_quiet ((go_at_call 20; exact Calls.quiet_of (HL.out _)))
  go_wp2
  rw [show ((n : Int) - (n - i)) = (i : Int) from by omega]
  have d0 : (w.drewN nq).cell? _ = _ := e0
  have d1 : (w.drewN nq).cell? _ = _ := e1
  have d2 : (w.drewN nq).cell? _ = _ := e2
  have d3 : (w.drewN nq).cell? _ = _ := e3
  have d4 : (w.drewN nq).frozen? _ = _ := e4
  have DE : Hid ((w.drewN nq).heap[B + 2]? = _) := HE
  have DRB : Hid ((w.drewN nq).heap[B + 3]? = _) := HRB
  have DTB : Hid ((w.drewN nq).heap[B + 4]? = _) := HTB
  have DT : Hid ((w.drewN nq).heap[B]? = _) := HT
  have DR : Hid (Rdr (w.drewN nq) (B + 1) (some ⟨b, off, none⟩) n c i) := HR
  have DO : Hid ((w.drewN nq).ownsRow base 24 1 v acc.length (acc.map (seg b off))) := HO
  have DSZ : Hid (base ≤ (w.drewN nq).heap.size) := hsz0
  have DK : Hid (Kept [] w (w.drewN nq)) := (Kept.refl _ w).drewN nq
  clear HE HRB HTB HT HR HO HL e0 e1 e2 e3 e4
  generalize w.drewN nq = W at *
  obtain ⟨i0, hi, hz0, hz1, hz2⟩ := info_parts info24
  have hsz : base ≤ W.heap.size := DSZ.out
  clear DSZ
  have hvB : some B ≠ v.ownBlock := fun e => by have := (DO.out.lt B e.symm).1; omega
  have hvB2 : some (B + 2) ≠ v.ownBlock := fun e => by have := (DO.out.lt (B + 2) e.symm).1; omega
  have hvB4 : some (B + 4) ≠ v.ownBlock := fun e => by have := (DO.out.lt (B + 4) e.symm).1; omega
  have a0 : ∀ o, (W.alloc o).cell? ⟨B + 2, 0, none⟩ = some (.slice (some ⟨b, off, none⟩) n c) := fun o => (World.cell?_alloc_lt W o _ (by show B + 2 < W.heap.size; omega)).trans d0
  have a2 : ∀ o, (W.alloc o).cell? ⟨B + 4, 0, none⟩ = some (.pointer (some ⟨B, 0, none⟩)) := fun o => (World.cell?_alloc_lt W o _ (by show B + 4 < W.heap.size; omega)).trans d2
  have a3 : ∀ o, (W.alloc o).cell? ⟨B, 0, none⟩ = some v := fun o => (World.cell?_alloc_lt W o _ (by show B < W.heap.size; omega)).trans d3
  have g1 : IntKind.i64.wrap ((i : Int) + k) = (i : Int) + k := by rw [IntKind.wrap_i64]; omega
  have g2 : ((i : Int) + k).toNat = i + k := by omega
  have g3 : (0 : Int) ≤ (i : Int) + k := by omega
  have g4 : (i : Int) + k ≤ (c : Int) := by omega
  have g5 : max ((i : Int) + k) 0 = (i : Int) + k := by omega
  have g6 : ¬ i + k = i := by omega
  have g7 : i + k - i = k := by omega
  have g8 : i ≤ i + k := by omega
  have g9 : ¬ k = 0 := by omega
  have HI : Hid (Ybaf.prog.info? 24 = some i0) := hi
  have HZ : Hid (i0.zero = some (.slice none 0 0)) := hz0
  have HZ1 : Hid (i0.size = 1) := hz1
  have HZ2 : Hid (i0.bytes = 24) := hz2
  clear hi hz0 hz1 hz2
  go_cut [] from 14 to 29 (fun wx => AppR W wx base B b off acc i k v)
  case first =>
    go_region_law (refine step_append_own rfl (.tmp 17) (.tmp 27) 23 rfl base 24 i0 (.slice none 0 0) 1 24 Ybaf.underlying23 HI.out HZ.out HZ1.out HZ2.out rfl (by decide) v acc.length (acc.map (seg b off)) rfl (DO.out.alloc _) ⟨W.heap.size, 0, none⟩ 1 1 [seg b off (i, k)] rfl rfl (cell_one_new _ _ _) (by intro u hu; simp at hu; subst hu; rfl) (by unfold maxLen; omega) (by omega) (by simp; omega) ?_; intro ao cp w1 hown1 hgrow1; have HO1 : Hid (w1.ownsRow _ _ _ _ _ _) := hown1; have HG1 : Hid (World.grownBy _ w1 _) := hgrow1; clear hown1 hgrow1; have KB : Hid (w1.heap[B]? = _) := grown_blk HG1.out ((Below.heap_alloc _ _ _ (by show B < W.heap.size; omega)).trans DT.out) hvB; have KK : Hid (Kept (obl v) W w1) := app_kept HG1.out; clear HG1; have k1 := cell_of_one KB.out; have k2 := free_of_one KB.out; have k3 : w1.cell? ⟨B + 4, 0, none⟩ = some (.pointer (some ⟨B, 0, none⟩)) := cell_of_one (KK.out.blk DTB.out (fun e => hvB4 (mem_obl.1 e).symm)))
    all_goals (go_wp2_with fail; go_meet; exact appR_mk KB.out KK.out (by omega) HO1.out)
  case rest =>
    obtain ⟨v', hown', hT', hK'⟩ := hcut
    have hKw : Kept (B :: obl v) w wc := DK.out.trans hK' (by simp) (fun x hx _ => hx)
    have hszc : base ≤ wc.heap.size := Nat.le_trans hsz hK'.size
    have nB : ∀ x, 0 < x → x ≤ 4 → B + x ∉ B :: obl v := fun x h0 h4 h => by
      rcases List.mem_cons.1 h with h | h
      · omega
      · have := (DO.out.lt _ (mem_obl.1 h)).1; omega
    have hR' : Rdr wc (B + 1) (some ⟨b, off, none⟩) n c i := by
      obtain ⟨x, hx⟩ := DR.out
      exact ⟨x, hK'.blk hx (nB 1 (by omega) (by omega))⟩
    have HS := seek_any k hR' (by unfold maxLen; omega)
    have HE' := hK'.blk DE.out (nB 2 (by omega) (by omega))
    have HRB' := hK'.blk DRB.out (nB 3 (by omega) (by omega))
    have HTB' := hK'.blk DTB.out (nB 4 (by omega) (by omega))
    have q1 := cell_of_one HRB'
    have P : Hid (∀ w2, Rdr w2 (B + 1) (some ⟨b, off, none⟩) n c (i + k) → Kept [B + 1] wc w2 → ∃ v', Vis w2 base B b off n c (i + k) (acc ++ [(i, k)]) v' ∧ Kept (B :: (B + 1) :: obl v) w w2) := by
      intro w2 hR2 hK2
      refine ⟨v', ⟨hK2.blk HE' (by simp), hK2.blk HRB' (by simp), hK2.blk HTB' (by simp), hR2, hK2.blk hT' (by simp), hK2.owns hown' (fun x hx => by have := (hown'.lt x hx).1; simp; omega), hbase, Nat.le_trans hszc hK2.size⟩, ?_⟩
      exact hKw.trans hK2 (fun x hx => by rcases List.mem_cons.1 hx with h | h <;> simp [h]) (fun x hx _ => by simp at hx; simp [hx])
    clear hown' hT' hK' hKw nB hR' HE' HRB' HTB' DE DRB DTB DT DR DO DK d0 d1 d2 d3 d4 a0 a2 a3
    go_wp2_with (go_at_call 21; refine HS.mono ?_; rintro e w2 ⟨rfl, hR2, hK2⟩)
    go_ret
    have R2 : Rdr w2 (B + 1) (some ⟨b, off, none⟩) n c (i + k) := by assumption
    have K2 : Kept [B + 1] wc w2 := by assumption
    obtain ⟨v', h1, h2⟩ := P.out w2 R2 K2
    exact ⟨v', rfl, h1, h2⟩
end Go.Proofs.YbulkcxpqFmt
