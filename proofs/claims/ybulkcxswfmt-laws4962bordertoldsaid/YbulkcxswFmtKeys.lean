import Derived.Test.YbulkcxswFmtOps
namespace Go.Proofs.YbulkcxswFmt
open Go Go.RowKit Go.Deep

theorem seen_all {n : Nat} {l : List Nat} (h1 : l.Nodup) (h2 : ∀ x ∈ l, x < n) (h3 : ∀ i, i < n → i ∈ l) : l.Perm (List.range n) :=
  (List.perm_ext_iff_of_nodup h1 List.nodup_range).2 (fun a => ⟨fun h => List.mem_range.2 (h2 a h), fun h => h3 a (List.mem_range.1 h)⟩)
theorem perm_getD {n : Nat} {l ks : List Nat} (hk : ks.length = n) (h : l.Perm (List.range n)) : (l.map fun i => ks.getD i 0).Perm ks := by
  have h1 := h.map (fun i => ks.getD i 0)
  have h2 : (List.range n).map (fun i => ks.getD i 0) = ks := by
    refine List.ext_getElem (by simp [hk]) (fun i h1 h2 => ?_)
    simp [List.getElem?_eq_getElem h2]
  rwa [h2] at h1
theorem nodup_len : ∀ (n : Nat) (l : List Nat), l.Nodup → (∀ x ∈ l, x < n) → l.length ≤ n
  | 0, l, _, h => by
    cases l with
    | nil => simp
    | cons x r => exact absurd (h x (by simp)) (by omega)
  | n + 1, l, hn, h => by
    have ih := nodup_len n (l.erase n) (hn.erase n) (fun x hx => by
      have h1 := (hn.mem_erase_iff).1 hx
      have h2 := h x h1.2
      have h3 := h1.1
      omega)
    by_cases hm : n ∈ l
    · rw [List.length_erase_of_mem hm] at ih; omega
    · rw [List.erase_of_not_mem hm] at ih; omega
theorem seen_full {n : Nat} {l : List Nat} (h1 : l.Nodup) (h2 : ∀ x ∈ l, x < n) (h3 : n ≤ l.length) : ∀ i, i < n → i ∈ l := by
  intro i hi
  refine Classical.byContradiction (fun hni => ?_)
  have := nodup_len n (i :: l) (List.nodup_cons.2 ⟨hni, h1⟩) (fun x hx => by
    rcases List.mem_cons.1 hx with rfl | hx
    · exact hi
    · exact h2 x hx)
  simp at this
  omega
def slen : Value → Nat
  | .slice _ k _ => k
  | _ => 0

set_option maxRecDepth 100000 in
set_option maxHeartbeats 800000 in
theorem keys_any (bm : Nat) (L : SM) (ks m : List Nat) (w : World) (hm : StrMap w bm L) (hks : L.map (·.1) = ks.map nm) (hp : ks.Perm m) (hs : m.Pairwise (· < ·)) (hb : ∀ x ∈ m, x < 676) (hn : L.length ≤ 1000) :
    Calls Ybaf.prog 8 #[.map (some bm)] w fun e w' => ∃ b, e = .returned (.slice (some ⟨b, 0, none⟩) m.length m.length) ∧ w'.rowIs b 9 m.length (fun j => .string (nm (m.getD j 0))) ∧ w.heap.size ≤ b ∧ Below w.heap.size w w' := by
  have HM := hidE hm
  have hlen := fun ty => len_map (P := Ybaf.prog) w 52 9 4 ty Ybaf.underlying52 bm L hm
  have hmk := run_make_room (P := Ybaf.prog) 34 9 (.string ⟨#[]⟩) 16 Ybaf.underlying34 info9 rfl .i64 .i64 L.length (by omega) (by omega)
  have hrg := run_range_map (P := Ybaf.prog) (w.alloc (.cells (madeCells #[.string ⟨#[]⟩] L.length) 9)) 52 9 4 bm (ents L 0).toArray L.length Ybaf.underlying52 (hm.alloc _).1
  have hsz : (w.alloc (.cells (madeCells #[.string ⟨#[]⟩] L.length) 9)).heap.size = w.heap.size + 1 := Array.size_push _
  have h1 : Hid (((w.alloc (.cells (madeCells #[.string ⟨#[]⟩] L.length) 9)).alloc (.mapIter (some bm) L.length #[] L.length)).rowIs w.heap.size 9 L.length (fun _ => .string ⟨#[]⟩)) := (World.rowIs_made w (.string ⟨#[]⟩) L.length 9).alloc _
  have h2 : Hid (((w.alloc (.cells (madeCells #[.string ⟨#[]⟩] L.length) 9)).alloc (.mapIter (some bm) L.length #[] L.length)).heap[w.heap.size + 1]? = some (.mapIter (some bm) L.length #[] L.length)) := by
    have := heap_alloc_new (w.alloc (.cells (madeCells #[.string ⟨#[]⟩] L.length) 9)) (.mapIter (some bm) L.length #[] L.length)
    rwa [hsz] at this
  have h3 : Hid (StrMap ((w.alloc (.cells (madeCells #[.string ⟨#[]⟩] L.length) 9)).alloc (.mapIter (some bm) L.length #[] L.length)) bm L) := (hm.alloc _).alloc _
  have h4 : Hid (Below w.heap.size w ((w.alloc (.cells (madeCells #[.string ⟨#[]⟩] L.length) 9)).alloc (.mapIter (some bm) L.length #[] L.length))) := ((Below.refl _ w).alloc (Nat.le_refl _) _).alloc (by rw [hsz]; omega) _
  have hbm : bm < w.heap.size := hm.lt
  clear hm hsz
  go_enter Ybaf.func8, Ybaf.ntmps8
  go_wp2_with fail
  clear hmk hrg hlen
  generalize ((w.alloc (.cells (madeCells #[.string ⟨#[]⟩] L.length) 9)).alloc (.mapIter (some bm) L.length #[] L.length)) = w1 at *
  go_loopw [3] (fun s3 wr => ∃ seen : List Nat, seen.length ≤ L.length ∧ s3 = .slice (some ⟨w.heap.size, 0, none⟩) seen.length L.length ∧ Hid (seen.Nodup ∧ ∀ x ∈ seen, x < L.length) ∧ Hid (wr.rowIs w.heap.size 9 L.length (fun j => .string (if j < seen.length then nm (ks.getD (seen.getD j 0) 0) else ⟨#[]⟩))) ∧ Hid (wr.heap[w.heap.size + 1]? = some (.mapIter (some bm) L.length seen.toArray L.length)) ∧ Hid (StrMap wr bm L) ∧ Hid (Below w.heap.size w wr)) (fun s3 _ => L.length - slen s3)
  case atStart => exact ⟨[], by simp, rfl, ⟨List.nodup_nil, by simp⟩, h1.out.congr (fun i _ => by simp), h2, h3, h4⟩
  case round =>
    clear h1 h2 h3 h4
    obtain ⟨seen, hsl, rfl, hsn, h1, h2, h3, h4⟩ := hrel
    rcases run_next_str (P := Ybaf.prog) wr 0 (w.heap.size + 1) bm L seen.toArray h2.out h3.out with ⟨hall, hnx⟩ | ⟨i, hi, q, hni, hnx⟩
    · have hps : seen.Perm (List.range L.length) := seen_all hsn.out.1 hsn.out.2 (fun i hi => by simpa using hall i hi)
      have hsl2 : seen.length = L.length := by simpa using hps.length_eq
      have hkl : ks.length = L.length := by simpa using (congrArg List.length hks).symm
      have hss : ((seen.map fun i => ks.getD i 0).map nmL).length = seen.length := by simp
      have hsort := sort_row w.heap.size L.length L.length _ ((seen.map fun i => ks.getD i 0).map nmL) wr h1.out (by simp; omega) (by omega) (fun j hj => by
        have hj' : j < seen.length := by simpa using hj
        rw [if_pos hj']
        simp [nm, List.getElem?_eq_getElem hj'])
      have hnames : sortS ((seen.map fun i => ks.getD i 0).map nmL) = m.map nmL := sortS_names ((perm_getD hkl hps).trans hp) hs hb
      rw [hss, hsl2, hnames] at hsort
      rw [hsl2]
      clear hss hnames
      go_wp2_with fail
      refine hsort.mono ?_
      rintro e w2 ⟨rfl, hrow, hk2⟩
      have hml : m.length = L.length := by rw [← hp.length_eq, hkl]
      have HR : Hid (w2.rowIs w.heap.size 9 m.length (fun j => .string (nm (m.getD j 0)))) := by
        rw [hml]
        refine hrow.congr (fun j hj => ?_)
        rw [if_pos hj]
        have hj' : j < m.length := by omega
        simp [nm, List.getElem?_eq_getElem hj']
      have HB : Hid (Below w.heap.size w w2) := h4.out.trans ⟨hk2.os, hk2.tape, hk2.output, hk2.size, fun k hk => hk2.block k (Nat.lt_of_lt_of_le hk h4.out.size) (by simp; omega)⟩
      clear hsort hrow
      have HML := hidE hml
      clear hml
      go_wp2_with fail
      go_ret
      exact ⟨w.heap.size, by rw [HML.out]; rfl, HR.out, Nat.le_refl _, HB.out⟩
    · have hlt2 : seen.length < L.length := by
        rcases Nat.lt_or_ge seen.length L.length with h | h
        · exact h
        · exfalso
          have hp2 := seen_full hsn.out.1 hsn.out.2 (by omega) i hi
          exact hni (by simpa using hp2)
      obtain ⟨wy, hwy⟩ : ∃ wy, wy = World.putObj (wr.drewN q) (w.heap.size + 1) (.mapIter (some bm) L.length (seen.toArray.push i) L.length) := ⟨_, rfl⟩
      rw [← hwy] at hnx
      have hilt : w.heap.size + 1 < wr.heap.size := (Array.getElem?_eq_some_iff.1 h2.out).1
      have g1 : Hid (wy.rowIs w.heap.size 9 L.length (fun j => .string (if j < seen.length then nm (ks.getD (seen.getD j 0) 0) else ⟨#[]⟩))) := by
        rw [hwy]; exact rowIs_putObj (w := wr.drewN q) h1.out (by omega) _
      have g2 : wy.heap[w.heap.size + 1]? = some (.mapIter (some bm) L.length (seen.toArray.push i) L.length) := by
        rw [hwy]; exact putObj_same (w := wr.drewN q) hilt
      have g3 : StrMap wy bm L := by
        rw [hwy]; exact StrMap.putOther (w := wr.drewN q) h3.out (by omega) _
      have g4 : Hid (Below w.heap.size w wy) := by
        rw [hwy]; exact putObj_below (w := wr.drewN q) ⟨h4.out.os, h4.out.tape, h4.out.output, h4.out.size, h4.out.block⟩ (by omega) _
      have hent := run_entry_str (P := Ybaf.prog) wy (w.heap.size + 1) bm L seen.toArray i hi g2 g3
      obtain ⟨u, hu⟩ : ∃ u, (wy.alloc (.cells #[.string (L[i]'hi).1] 9)).cell? ⟨w.heap.size, seen.length, none⟩ = some u := ⟨_, (g1.out.alloc _).cell hlt2⟩
      have hfz : (wy.alloc (.cells #[.string (L[i]'hi).1] 9)).frozen? ⟨w.heap.size, seen.length, none⟩ = false := (g1.out.alloc _).frozen _
      have G2 := hidE g2
      have G3 := hidE g3
      clear g2 g3 hwy
      go_wp2_with fail
      have hkey : (L[i]'hi).1 = nm (ks.getD i 0) := by
        have h5 : (L.map (·.1))[i]? = (ks.map nm)[i]? := by rw [hks]
        have hki : i < ks.length := by have := congrArg List.length hks; simp at this; omega
        simp [List.getElem?_eq_getElem hi, List.getElem?_eq_getElem hki] at h5
        simpa [List.getElem?_eq_getElem hki] using h5
      go_roundw
      case rel =>
        refine ⟨seen ++ [i], by simp; omega, by simp, ⟨?_, ?_⟩, ((g1.out.alloc _).set seen.length _).congr (fun j hj => ?_), ?_, (G3.out.alloc _).setCell (by show bm ≠ w.heap.size; omega) _, (g4.out.alloc g4.out.size _).setCell (by show w.heap.size ≤ w.heap.size; omega) _⟩
        · rw [List.nodup_append]
          refine ⟨hsn.out.1, by simp, fun a ha b hb' => ?_⟩
          have : b = i := by simpa using hb'
          subst this
          exact fun e => hni (by simpa using e ▸ ha)
        · intro x hx
          rcases List.mem_append.1 hx with hx | hx
          · exact hsn.out.2 x hx
          · have : x = i := by simpa using hx
            omega
        · by_cases hjs : j = seen.length
          · subst hjs
            simp [hkey]
          · rw [if_neg hjs]
            by_cases hj2 : j < seen.length
            · rw [if_pos hj2, if_pos (by simp; omega)]
              simp [List.getElem?_append_left hj2]
            · rw [if_neg hj2, if_neg (by simp; omega)]
        · have h5 : ((wy.alloc (.cells #[.string (L[i]'hi).1] 9)).setCell ⟨w.heap.size, seen.length, none⟩ (.string (L[i]'hi).1)).heap[w.heap.size + 1]? = wy.heap[w.heap.size + 1]? :=
            (blk_setCell_other _ _ _ _ (by show w.heap.size + 1 ≠ w.heap.size; omega)).trans (heap_alloc_old wy _ (Array.getElem?_eq_some_iff.1 G2.out).1)
          refine h5.trans (G2.out.trans ?_)
          simp
      case measure => simp [slen]; omega
end Go.Proofs.YbulkcxswFmt
