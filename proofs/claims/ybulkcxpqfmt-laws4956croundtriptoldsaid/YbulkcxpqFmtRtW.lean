import Derived.Test.YbulkcxpqFmtRt
import Derived.Deep.CutRange
import Derived.Deep.CutBlock
import Derived.Deep.QuietTactic
import Derived.BigQuiet
namespace Go.Proofs.YbulkcxpqFmt
open Go.RowKit Go.Extern.Stop Go.Stop Go.Extern

/-- What is known of the list that came in. -/
def ArgAt (w : World) (b off : Nat) (A : Nat → Option Addr) (C : Nat → Nat) (Y : Nat → List Int) (r : Nat) : Prop :=
  w.cell? ⟨b, off + r, none⟩ = some (.slice (A r) (Y r).length (C r)) ∧ (Y r).length ≤ C r ∧ C r ≤ maxLen ∧ (0 < (Y r).length → ∃ bb oo, A r = some ⟨bb, oo, none⟩ ∧ bb < w.heap.size ∧ Src w bb oo (Y r))

theorem big (round : Nat) (ao : Option Addr) (len cap : Nat) (w : World) (h : 2048 < len) :
    Calls Ybaf.prog 3 #[.int .u64 round, .slice ao len cap] w fun e w' => e = .returned (.bool true) ∧ Below w.heap.size w w' := by
  go_enter Ybaf.func3, Ybaf.ntmps3
  go_wp2_with fail
  go_ret
  exact ⟨rfl, Below.refl _ _⟩

theorem src_cells {w : World} {b o : Nat} {t : List Int} (h : Src w b o t) : ∀ j u, (u8s t)[j]? = some u → w.cell? ((⟨b, o, none⟩ : Addr).add j) = some u := by
  intro j u hu
  rw [Go.WideShapes.add_plain]
  unfold u8s at hu
  rw [List.getElem?_map] at hu
  rcases Nat.lt_or_ge j t.length with hj | hj
  · rw [List.getElem?_eq_getElem hj] at hu
    simp at hu
    have := h j hj
    rw [← hu]
    simpa [List.getD, hj] using this
  · rw [List.getElem?_eq_none hj] at hu; simp at hu

/-- The transaction at hand, as it stands behind the first and behind the second test. -/
def Tok1 (w wx : World) (round : Nat) (T : Nat → List Int) (len k gp cp gw : Nat) (ws : List Value) (v : Value) : Prop :=
  RT w wx round T len k gp cp gw ws ∧ ∃ (u : List Int) (bb oo c : Nat), v = .slice (some ⟨bb, oo, none⟩) u.length c ∧ 0 < u.length ∧ u.length ≤ c ∧ c ≤ maxLen ∧ T k = u.take 65536 ∧ Src wx bb oo u ∧ bb < wx.heap.size ∧ bb ≠ gp ∧ bb ≠ gw
def Tok2 (w wx : World) (round : Nat) (T : Nat → List Int) (len k gp cp gw : Nat) (ws : List Value) (v : Value) : Prop :=
  RT w wx round T len k gp cp gw ws ∧ Wanted wx gp gw (T k) v

theorem tok1_empty {w wr : World} {round : Nat} {T : Nat → List Int} {len k gp cp gw : Nat} {ws : List Value} {y : List Int} (h : RT w wr round T len k gp cp gw ws) (hT : T k = norm y) (hy : y.length = 0) :
    Tok1 w (wr.alloc (.cells #[.int .u8 90] 5)) round T len k gp cp gw ws (.slice (some ⟨wr.heap.size, 0, none⟩) 1 1) := by
  obtain ⟨l1, l2, _, _⟩ := h.lt
  refine ⟨h.kept0 ((Kept.refl [] wr).alloc _), [90], wr.heap.size, 0, 1, rfl, by decide, by decide, by decide, by rw [hT, norm, if_pos hy]; rfl, fun j hj => ?_, by simp, by omega, by omega⟩
  have : j = 0 := by simp at hj; omega
  subst this
  simp
theorem tok1_some {w wr : World} {round : Nat} {T : Nat → List Int} {len k gp cp gw : Nat} {ws : List Value} {y : List Int} {a : Option Addr} {c : Nat} (h : RT w wr round T len k gp cp gw ws) (hT : T k = norm y) (hy : 0 < y.length) (hc : y.length ≤ c) (hm : c ≤ maxLen)
    (hs : 0 < y.length → ∃ bb oo, a = some ⟨bb, oo, none⟩ ∧ bb < w.heap.size ∧ Src w bb oo y) : Tok1 w wr round T len k gp cp gw ws (.slice a y.length c) := by
  obtain ⟨bb, oo, rfl, hb, hsrc⟩ := hs hy
  obtain ⟨l1, l2, l3, l4⟩ := h.lt
  have := h.hB.size
  exact ⟨h, y, bb, oo, c, rfl, hy, hc, hm, by rw [hT, norm, if_neg (by omega)], fun j hj => (h.hB.cell (p := ⟨bb, oo + j, none⟩) hb).trans (hsrc j hj), by omega, by omega, by omega⟩
theorem tok2_cut {w wx : World} {round : Nat} {T : Nat → List Int} {len k gp cp gw : Nat} {ws : List Value} {u : List Int} {bb oo c : Nat} (h : RT w wx round T len k gp cp gw ws) (hT : T k = u.take 65536) (hs : Src wx bb oo u) (hb : bb < wx.heap.size) (h1 : bb ≠ gp) (h2 : bb ≠ gw) (hu : 65536 < u.length) :
    Tok2 w wx round T len k gp cp gw ws (.slice (some ⟨bb, oo, none⟩) 65536 c) := by
  have hl : (T k).length = 65536 := by rw [hT]; simp; omega
  refine ⟨h, bb, oo, c, by rw [hl], hb, h1, h2, fun j hj => ?_⟩
  rw [hT, List.getD, List.getElem?_take_of_lt (by omega)]
  exact hs j (by omega)
theorem tok2_same {w wx : World} {round : Nat} {T : Nat → List Int} {len k gp cp gw : Nat} {ws : List Value} {u : List Int} {bb oo c : Nat} (h : RT w wx round T len k gp cp gw ws) (hT : T k = u.take 65536) (hs : Src wx bb oo u) (hb : bb < wx.heap.size) (h1 : bb ≠ gp) (h2 : bb ≠ gw) (hu : u.length ≤ 65536) :
    Tok2 w wx round T len k gp cp gw ws (.slice (some ⟨bb, oo, none⟩) u.length c) := by
  have e : T k = u := by rw [hT]; exact List.take_of_length_le hu
  exact ⟨h, bb, oo, c, by rw [e], hb, h1, h2, by rw [e]; exact hs⟩

theorem own_caps {w : World} {base g n cap : Nat} {e : TypeId} {xs : List Value} (h : w.ownsRow base e 1 (.slice (some ⟨g, 0, none⟩) n cap) n xs) : n ≤ cap ∧ cap ≤ maxLen := by
  rcases h.2 with ⟨h', _⟩ | ⟨g', cap', cur, h', _, _, h1, h2, _⟩
  · simp at h'
  · simp only [Value.slice.injEq, Option.some.injEq, Addr.mk.injEq, and_true, true_and] at h'
    obtain ⟨rfl, rfl⟩ := h'
    exact ⟨h1, h2⟩
theorem src_own {w : World} {base g cap : Nat} {zs : List Int} (h : w.ownsRow base 5 1 (.slice (some ⟨g, 0, none⟩) zs.length cap) zs.length (u8s zs)) : Src w g 0 zs := by
  intro j hj
  rw [Nat.zero_add, h.cellAt j (by omega)]
  simp [u8s, hj, List.getD]
theorem src_in {w : World} {b o : Nat} {t : List Int} (h : Src w b o t) : Lib.BytesIn w (some ⟨b, o, none⟩) t.length t := Lib.BytesIn.of_cells (fun i hi => by rw [Go.WideShapes.add_plain]; exact h i hi)
theorem equal_same {w : World} {b o b2 o2 c c2 : Nat} {t : List Int} (h1 : Src w b o t) (h2 : Src w b2 o2 t) :
    Calls Ybaf.prog 8 #[.slice (some ⟨b, o, none⟩) t.length c, .slice (some ⟨b2, o2, none⟩) t.length c2] w fun e w' => e = .returned (.bool true) ∧ w' = w := by
  have := Ybaf.bytes_Equal_all (some ⟨b, o, none⟩) (some ⟨b2, o2, none⟩) t.length c t.length c2 t t w rfl rfl (src_in h1) (src_in h2)
  rw [show (Lib.bytesOf t == Lib.bytesOf t) = true from by simp] at this
  exact this
theorem cmp_facts {w wr w3 : World} {round : Nat} {T : Nat → List Int} {len k gp cp gw gg cg : Nat} {ws : List Value} (h : RT w wr round T len k gp cp gw ws) (hB : Below wr.heap.size wr w3)
    (ho : w3.ownsRow wr.heap.size 24 1 (.slice (some ⟨gg, 0, none⟩) k cg) k ((places 8 (tsk T k)).map (seg gp 0))) :
    ∀ j, j < k → ∃ s bb oo c, w3.cell? ⟨gg, j, none⟩ = some (.slice (some ⟨gp, s, none⟩) (T j).length (T j).length) ∧ w3.cell? ⟨gw, j, none⟩ = some (.slice (some ⟨bb, oo, none⟩) (T j).length c) ∧ Src w3 gp s (T j) ∧ Src w3 bb oo (T j) := by
  intro j hj
  obtain ⟨l1, l2, _, _⟩ := h.lt
  have hget : (tsk T k)[j]? = some (T j) := by simp [tsk, hj]
  obtain ⟨s, hs1, hs2⟩ := places_get (tsk T k) 8 j (T j) hget
  obtain ⟨hs3, hs4⟩ := hs2 (bz 8 round) (bz_length 8 _) []
  rw [List.append_nil] at hs3 hs4
  obtain ⟨v, hv, bb, oo, c, rfl, hbb, _, _, hsrc⟩ := h.hws j hj
  refine ⟨s, bb, oo, c, ?_, ?_, fun i hi => ?_, fun i hi => (hB.cell (p := ⟨bb, oo + i, none⟩) hbb).trans (hsrc i hi)⟩
  · rw [ho.cellAt j (by omega), List.getElem?_map, hs1]
    simp [seg]
  · rw [hB.cell (p := ⟨gw, j, none⟩) l2, h.hw.cellAt j (by omega)]
    exact hv
  · have hlen : s + i < (bz 8 round ++ encs (tsk T k)).length := by omega
    have := src_own h.hp (s + i) hlen
    rw [Nat.zero_add] at this
    rw [hB.cell (p := ⟨gp, s + i, none⟩) l1, this]
    have e : (T j).getD i 0 = (enc round (tsk T k)).getD (s + i) 0 := by
      conv => lhs; rw [← hs3]
      rw [List.getD, List.getD, List.getElem?_take_of_lt hi, List.getElem?_drop]
      rfl
    rw [e]
theorem hidE {p : Prop} (h : p) : Hid p := h
theorem lies_or {g1 g2 n N c : Nat} (h : (Value.slice (some ⟨g1, 0, none⟩) N c).ownBlock = some g2 ∨ g2 = n) : g2 = g1 ∨ g2 = n := by
  rcases h with h | h
  · simp [Value.ownBlock] at h; exact .inl h.symm
  · exact .inr h
theorem rt_w4 {w3 w4 : World} {base gw gp g1 k len N c3 n : Nat} {ws : List Value} (h : w3.ownsRow base 24 1 (.slice (some ⟨gw, 0, none⟩) k len) k ws) (hg : w3.grownBy w4 (Value.slice (some ⟨g1, 0, none⟩) N c3).ownBlock) (ha : g1 = gp ∨ n ≤ g1) (hne : gp ≠ gw) (hl : gw < n) :
    Hid (w4.ownsRow base 24 1 (.slice (some ⟨gw, 0, none⟩) k len) k ws) := h.kept hg (.inr (by simp [Value.ownBlock]; omega))

set_option maxHeartbeats 1000000 in
theorem rt_any (F : Interp) (round : Nat) (b off len cap : Nat) (A : Nat → Option Addr) (C : Nat → Nat) (Y : Nat → List Int) (w : World) (hF : F.answers w.tape) (hr : round < 18446744073709551616) (hlen : len ≤ 2048)
    (hbw : b < w.heap.size) (hY : ∀ r, Bytes (Y r)) (hArg : ∀ r, r < len → ArgAt w b off A C Y r) :
    Calls Ybaf.prog 3 #[.int .u64 round, .slice (some ⟨b, off, none⟩) len cap] w fun e w' => e = .returned (.bool true) ∧ Below w.heap.size w w' := by
  obtain ⟨i0, hi, hz0, hz1, hz2⟩ := info_parts info24
  have HARG : Hid (∀ r, r < len → ArgAt w b off A C Y r) := hArg
  clear hArg
  go_enter Ybaf.func3, Ybaf.ntmps3
  go_wp2_with fail
  refine (app64 round hr w).mono ?_
  rintro e w1 ⟨g, c, rfl, hown1, hB1⟩
  go_wp2_with (first | (at_make; refine wpList_make_own _ rfl _ _ 23 rfl w.heap.size 24 i0 (.slice none 0 0) 1 Ybaf.underlying23 hi hz0 hz1 .i64 .i64 _ len rfl rfl rfl (by rw [hz2]; omega) (by unfold maxLen; omega) hB1.size ?_; intro w2 hown2 hgrow2))
  have hst : Hid (RT w w2 round (fun r => norm (Y r)) len 0 g c w1.heap.size []) := rt_start _ hown1 hB1 hown2 hgrow2
  clear hown1 hB1 hown2 hgrow2
  obtain ⟨T, hT⟩ : ∃ T : Nat → List Int, T = fun r => norm (Y r) := ⟨_, rfl⟩
  rw [← hT] at hst
  have HT : Hid (∀ r, T r = norm (Y r)) := fun r => by rw [hT]
  clear hT
  generalize w1.heap.size = gw at *
  go_loopw [5, 6, 7, 8] (fun s5 s6 s7 s8 wr => ∃ (k gp cp : Nat) (ws : List Value), k ≤ len ∧ s5 = .slice (some ⟨gp, 0, none⟩) (enc round (tsk T k)).length cp ∧ s6 = .slice (some ⟨gw, 0, none⟩) k len ∧ s7 = .int .i64 (totl T k : Nat) ∧ totl T k ≤ 16777216 ∧ s8 = .int .i64 k ∧ Hid (RT w wr round T len k gp cp gw ws)) (fun _ _ _ s8 _ => len - (intOf s8).toNat)
  case atStart => exact ⟨0, g, c, [], Nat.zero_le _, by simp [enc, tsk, encs, bz_length], rfl, rfl, by simp [totl], rfl, hst⟩
  case round =>
    obtain ⟨k, gp, cp, ws, hk, rfl, rfl, rfl, htot, rfl, hrt⟩ := hrel
    clear hst
    by_cases hlt : k < len
    · obtain ⟨hc0, hYC, hCm, hsrc⟩ := HARG.out k hlt
      have hcell : wr.cell? ⟨b, off + k, none⟩ = some (.slice (A k) (Y k).length (C k)) := (hrt.out.hB.cell hbw).trans hc0
      have HSRC : Hid (0 < (Y k).length → ∃ bb oo, A k = some ⟨bb, oo, none⟩ ∧ bb < w.heap.size ∧ Src w bb oo (Y k)) := hsrc
      clear hc0 hsrc
      unfold maxLen at hCm
      go_upto_if 36 with fail
      go_cut [9] from 24 to 61 (fun s9 wx => Hid (Tok1 w wx round T len k gp cp gw ws s9))
      case first =>
        by_cases hy : (Y k).length = 0
        · have HY : Hid ((Y k).length = 0) := hy
          have hq : (((Y k).length : Int) == 0) = true := by simp [hy]
          clear hy
          go_wp2_with fail
          go_meet
          case rel => exact tok1_empty hrt.out (HT.out k) HY.out
        · have hq : (((Y k).length : Int) == 0) = false := by rw [beq_eq_false_iff_ne]; omega
          go_wp2_with fail
          go_meet
          case rel => exact tok1_some hrt.out (HT.out k) (by omega) hYC hCm HSRC.out
      case rest =>
        obtain ⟨hrt1, u, bb, oo, c1, rfl, hu0, huc, hcm, hTk, hsu, hbb, hn1, hn2⟩ := hcut.out
        have HRT1 : Hid (RT w wc round T len k gp cp gw ws) := hrt1
        have HTk : Hid (T k = u.take 65536) := hTk
        have HSU : Hid (Src wc bb oo u) := hsu
        clear hrt1 hTk hsu hcut hrt hcell HSRC
        unfold maxLen at hcm
        go_upto_if 40 with fail
        go_cut [9] from 24 to 61 (fun s9 wx => Hid (Tok2 w wx round T len k gp cp gw ws s9))
        case first =>
          by_cases hu : 65536 < u.length
          · go_wp2_with fail
            go_meet
            case rel => exact tok2_cut HRT1.out HTk.out HSU.out hbb hn1 hn2 hu
          · go_wp2_with fail
            go_meet
            case rel => exact tok2_same HRT1.out HTk.out HSU.out hbb hn1 hn2 (by omega)
        case rest =>
          clear HRT1 HTk HSU hu0 huc hcm hbb hn1 hn2
          obtain ⟨hrt2, bb2, oo2, c2, rfl, hbb2, hm1, hm2, hsrc2⟩ := hcut.out
          have HRT2 : Hid (RT w wc round T len k gp cp gw ws) := hrt2
          have HSU2 : Hid (Src wc bb2 oo2 (T k)) := hsrc2
          have HL2 := hrt2.lt
          have hne : gp ≠ gw := hrt2.hne
          clear hrt2 hsrc2 hcut
          have hTl : 1 ≤ (T k).length ∧ (T k).length ≤ 65536 := by rw [HT.out]; exact norm_length _
          by_cases htot2 : 16777216 < totl T k + (T k).length
          · go_wp2_with fail
            go_ret
            exact ⟨rfl, HRT2.out.hB⟩
          · have hen : Hid ((enc round (tsk T k)).length = 8 + 4 * k + totl T k) := enc_length round T k
            have hN : (enc round (tsk T k)).length ≤ 20000000 := by rw [hen.out]; omega
            have happ := app32 w.heap.size (enc round (tsk T k)).length (T k).length (by omega) gp cp (u8s (enc round (tsk T k))) wc HRT2.out.hp HRT2.out.hB.size (by omega)
            go_wp2_with fail
            refine happ.mono ?_
            rintro e w3 ⟨g1, c3, rfl, hown3, hK3, hat3⟩
            have hsz3 : w.heap.size ≤ w3.heap.size := Nat.le_trans HRT2.out.hB.size hK3.size
            have hs3 := hK3.size
            have hW3 : w3.ownsRow w.heap.size 24 1 (.slice (some ⟨gw, 0, none⟩) k len) k ws := hK3.owns HRT2.out.hw (fun x hx => by simp [Value.ownBlock] at hx; simp; omega)
            have hS3 : Src w3 bb2 oo2 (T k) := HSU2.out.kept hK3 hbb2 (by simp; omega)
            have HN3 : Hid (∀ j u, (u8s (T k))[j]? = some u → w3.cell? ((⟨bb2, oo2, none⟩ : Addr).add j) = some u) := src_cells hS3
            have HK3 : Hid (Kept [gp] wc w3) := hK3
            have HO3 : Hid (w3.ownsRow w.heap.size 5 1 (.slice (some ⟨g1, 0, none⟩) ((enc round (tsk T k)).length + 4) c3) ((enc round (tsk T k)).length + 4) (u8s (enc round (tsk T k)) ++ u8s (bz 4 (T k).length))) := hown3
            have HW3 : Hid (w3.ownsRow w.heap.size 24 1 (.slice (some ⟨gw, 0, none⟩) k len) k ws) := hW3
            clear happ hown3 hK3 hW3 hS3
            obtain ⟨j0, hj, hy0, hy1, hy2⟩ := info_parts info5
            go_wp2_with (first | (at_builtin; refine wpList_append_lies _ rfl (.tmp 55) (.tmp 56) 24 rfl w.heap.size 5 j0 (.int .u8 0) 1 1 Ybaf.underlying24 hj hy0 hy1 hy2 rfl (by decide) (.slice (some ⟨g1, 0, none⟩) ((enc round (tsk T k)).length + 4) c3) ((enc round (tsk T k)).length + 4) (u8s (enc round (tsk T k)) ++ u8s (bz 4 (T k).length)) rfl HO3.out ⟨bb2, oo2, none⟩ (T k).length c2 (u8s (T k)) rfl (by simp [u8s]) HN3.out u8s_one (by omega) (by unfold maxLen; omega) (by omega) hsz3 w3.heap.size rfl ?_; intro g2 c4 w4 hown4 hgrow4 hat4 hlt4; have HW4 := rt_w4 HW3.out hgrow4 hat3 hne HL2.2.1; have HO4 := hidE hown4; have HG4 := hidE hgrow4; have HA4 := hidE hat4; clear hown4 hgrow4 hlt4 hat4) | (at_builtin; go_must (refine wpList_append_fits _ rfl (.tmp 58) (.tmp 60) 23 rfl w.heap.size 24 i0 1 Ybaf.underlying23 hi hz1 gw k len ws rfl (HW4.out.alloc _) ⟨w4.heap.size, 0, none⟩ 1 1 [.slice (some ⟨bb2, oo2, none⟩) (T k).length c2] rfl rfl (cell_one_new _ _ _) (by intro u hu; simp at hu; subst hu; rfl) (by omega) ?_); intro w5 hown5 hgrow5; have HO5 := hidE hown5; have HG5 := hidE hgrow5; clear hown5 hgrow5))
            have HRT5 : Hid (RT w w5 round T len (k + 1) g2 c4 gw (ws ++ [.slice (some ⟨bb2, oo2, none⟩) (T k).length c2])) := rt_step HRT2.out ⟨bb2, oo2, c2, rfl, hbb2, hm1, hm2, HSU2.out⟩ HK3.out hat3 HO4.out HG4.out (lies_or HA4.out) HO5.out HG5.out
            clear HO4 HG4 HW4 HA4 HO5 HG5 HRT2 HSU2 HK3 HO3 HW3 HN3
            go_roundw
            case rel => exact ⟨k + 1, g2, c4, _, by omega, by rw [show (enc round (tsk T k)).length + 4 + (T k).length = (enc round (tsk T (k + 1))).length from by rw [enc_length, enc_length]; simp only [totl]; omega], rfl, by simp [totl], by simp [totl]; omega, by go_num, HRT5⟩
            case measure => simp [intOf]; omega
    · have hkl : k = len := by omega
      subst hkl
      obtain ⟨hcpn, hcpm⟩ : (enc round (tsk T k)).length ≤ cp ∧ cp ≤ maxLen := own_caps hrt.out.hp
      have hTl : ∀ r, 1 ≤ (T r).length ∧ (T r).length ≤ 65536 := fun r => by rw [HT.out]; exact norm_length _
      have hTb : ∀ r, Bytes (T r) := fun r => by rw [HT.out]; exact norm_bytes (hY r)
      have hrd := readPayload_any F (w := wr) (by rw [hrt.out.hB.tape]; exact hF) (src_own hrt.out.hp) rfl (enc_bytes round T hTb k) hrt.out.lt.1 hcpn hcpm
      have HPE : Hid (parse (enc round (tsk T k)) = if k ≤ 1000 then some ((round : Int), places 8 (tsk T k)) else none) := parse_enc round hr T hTl k
      go_wp2_with fail
      refine hrd.mono ?_
      rintro e w3 ⟨hB3, hend⟩
      have HB3 : Hid (Below wr.heap.size wr w3) := hB3
      clear hrd hB3
      by_cases h1000 : 1000 < k
      · rcases hend with ⟨a, rfl, hnone⟩ | ⟨r, l, v, rfl, hsome, hown⟩
        · clear hnone
          have kn : ∀ wx, (binOp .eql 23 (.slice none 0 0) (.slice none 0 0)).run Ybaf.prog wx = .ok (.bool true) wx := fun _ => by kernel_rfl
          go_wp2_with fail
          go_ret
          exact ⟨rfl, hrt.out.hB.trans (HB3.out.mono hrt.out.hB.size)⟩
        · exfalso
          rw [HPE.out, if_neg (by omega)] at hsome
          cases hsome
      · rcases hend with ⟨a, rfl, hnone⟩ | ⟨r, l, v, rfl, hsome, hown⟩
        · exfalso
          rw [HPE.out, if_pos (by omega)] at hnone
          cases hnone
        · rw [HPE.out, if_pos (by omega)] at hsome
          simp only [Option.some.injEq, Prod.mk.injEq] at hsome
          obtain ⟨rfl, rfl⟩ := hsome
          rw [places_length, tsk_length] at hown
          obtain ⟨ao, cp3, rfl⟩ := own_slice hown
          by_cases hk0 : 0 < k
          · obtain ⟨gg, cg, hform, _, _⟩ := hown.form hk0
            simp only [Value.slice.injEq, true_and] at hform
            obtain ⟨rfl, rfl⟩ := hform
            have HCF : Hid (∀ j, j < k → ∃ s bb oo c, w3.cell? ⟨gg, j, none⟩ = some (.slice (some ⟨gp, s, none⟩) (T j).length (T j).length) ∧ w3.cell? ⟨gw, j, none⟩ = some (.slice (some ⟨bb, oo, none⟩) (T j).length c) ∧ Src w3 gp s (T j) ∧ Src w3 bb oo (T j)) := cmp_facts hrt.out HB3.out hown
            have HBW : Hid (Below w.heap.size w w3) := hrt.out.hB.trans (HB3.out.mono hrt.out.hB.size)
            clear hown hrt HB3 HPE
            go_wp2_with fail
            go_loopw [13] (fun s13 wr2 => ∃ j : Nat, j ≤ k ∧ s13 = .int .i64 j ∧ Hid (∃ q, wr2 = w3.drewN q)) (fun s13 _ => k - (intOf s13).toNat)
            case atStart => exact ⟨0, Nat.zero_le _, rfl, 0, rfl⟩
            case round =>
              obtain ⟨j, hjk, rfl, hwr2⟩ := hrel
              by_cases hj : j < k
              · obtain ⟨s, bb, oo, cc, hc1', hc2', hs1', hs2'⟩ := HCF.out j hj
                have hc1 : wr.cell? ⟨gg, j, none⟩ = some (.slice (some ⟨gp, s, none⟩) (T j).length (T j).length) := by obtain ⟨q, rfl⟩ := hwr2.out; exact hc1'
                have hc2 : wr.cell? ⟨gw, j, none⟩ = some (.slice (some ⟨bb, oo, none⟩) (T j).length cc) := by obtain ⟨q, rfl⟩ := hwr2.out; exact hc2'
                have hs1 : Src wr gp s (T j) := by obtain ⟨q, rfl⟩ := hwr2.out; exact hs1'
                have hs2 : Src wr bb oo (T j) := by obtain ⟨q, rfl⟩ := hwr2.out; exact hs2'
                have HEQ : Hid (∀ q, Calls Ybaf.prog 8 #[.slice (some ⟨gp, s, none⟩) (T j).length (T j).length, .slice (some ⟨bb, oo, none⟩) (T j).length cc] (wr.drewN q) fun e w' => e = .returned (.bool true) ∧ w' = wr.drewN q) := fun q => equal_same (w := wr.drewN q) hs1 hs2
                clear hs1 hs2 hc1' hc2' hs1' hs2'
                have hjz : (j : Int) < (k : Int) := by omega
                go_wp2_with fail
                go_quiet ((go_at_call 8; exact Calls.quiet_of_same (HEQ.out _)))
                go_wp2_with fail
                go_roundw
                case rel => exact ⟨j + 1, by omega, by go_num, by obtain ⟨q, rfl⟩ := hwr2.out; exact ⟨_, World.drewN_drewN ..⟩⟩
                case measure => simp [intOf]; omega
              · go_wp2_with fail
                go_ret
                obtain ⟨q, rfl⟩ := hwr2.out
                exact ⟨rfl, below_drewN HBW.out _⟩
          · have HBW : Hid (Below w.heap.size w w3) := hrt.out.hB.trans (HB3.out.mono hrt.out.hB.size)
            clear hown hrt HB3 HPE
            go_wp2_with fail
            refine wp_loop_rounds 1 ?_
            rw [rounds_succ]
            go_wp2_with fail
            go_ret
            exact ⟨rfl, HBW.out⟩

set_option maxHeartbeats 1000000 in
theorem rt_nil (F : Interp) (round : Nat) (ao : Option Addr) (cap : Nat) (w : World) (hF : F.answers w.tape) (hr : round < 18446744073709551616) :
    Calls Ybaf.prog 3 #[.int .u64 round, .slice ao 0 cap] w fun e w' => e = .returned (.bool true) ∧ Below w.heap.size w w' := by
  obtain ⟨i0, hi, hz0, hz1, hz2⟩ := info_parts info24
  go_enter Ybaf.func3, Ybaf.ntmps3
  go_wp2_with fail
  refine (app64 round hr w).mono ?_
  rintro e w1 ⟨g, c, rfl, hown1, hB1⟩
  go_wp2_with (first | (at_make; refine wpList_make_own _ rfl _ _ 23 rfl w.heap.size 24 i0 (.slice none 0 0) 1 Ybaf.underlying23 hi hz0 hz1 .i64 .i64 _ 0 rfl rfl rfl (by rw [hz2]; omega) (by unfold maxLen; omega) hB1.size ?_; intro w2 hown2 hgrow2))
  have hst := rt_start (fun _ => [90]) hown1 hB1 hown2 hgrow2
  have e0 : enc round (tsk (fun _ => [90]) 0) = bz 8 round := by simp [enc, tsk, encs]
  have hp := hst.hp
  rw [e0, bz_length] at hp
  obtain ⟨hcpn, hcpm⟩ := own_caps hp
  have hsrc : Src w2 g 0 (bz 8 round) := src_own (by rw [bz_length]; exact hp)
  have hrd := readPayload_any F (w := w2) (by rw [hst.hB.tape]; exact hF) hsrc (bz_length 8 _) (bz_bytes 8 _) hst.lt.1 hcpn hcpm
  have HPE : Hid (parse (bz 8 round) = some ((round : Int), [])) := by
    have := parse_enc round hr (fun _ => [90]) (by simp) 0
    rw [e0] at this
    exact this
  have HB2 : Hid (Below w.heap.size w w2) := hst.hB
  clear hst hp hsrc hown1 hB1 hown2 hgrow2 e0
  refine wp_loop_rounds 1 ?_
  rw [rounds_succ]
  go_wp2_with fail
  refine hrd.mono ?_
  rintro e w3 ⟨hB3, hend⟩
  have HB3 : Hid (Below w.heap.size w w3) := HB2.out.trans (hB3.mono HB2.out.size)
  clear hrd hB3
  rcases hend with ⟨a, rfl, hnone⟩ | ⟨r, l, v, rfl, hsome, hown⟩
  · exfalso
    rw [HPE.out] at hnone
    cases hnone
  · rw [HPE.out] at hsome
    simp only [Option.some.injEq, Prod.mk.injEq] at hsome
    obtain ⟨rfl, rfl⟩ := hsome
    obtain ⟨ao, cp3, rfl⟩ := own_slice hown
    clear hown HPE
    go_wp2_with fail
    refine wp_loop_rounds 1 ?_
    rw [rounds_succ]
    go_wp2_with fail
    go_ret
    exact ⟨rfl, HB3.out⟩
end Go.Proofs.YbulkcxpqFmt
