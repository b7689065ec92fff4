import Derived.Test.YbulkcxswFmtCycW
import Derived.Test.YbulkcxswFmtErrs
import Derived.Test.YbulkcxswFmtBuilt
import Derived.Deep.RegionWith
namespace Go.Proofs.YbulkcxswFmt
open Go Go.RowKit Go.Deep Go.Extern.Stop Go.Stop Go.Extern

structure Sent (w : World) (a : Addr) (s : ByteArray) : Prop where
  g : w.cell? ⟨0, 0, none⟩ = some (.iface 90 (.pointer (some a)))
  c : w.cell? a = some (.string s)
theorem Sent.below {w w' : World} {a : Addr} {s : ByteArray} (h : Sent w a s) (hb : Below w.heap.size w w') : Sent w' a s :=
  ⟨(hb.cell (World.block_lt_of_cell? w _ h.g)).trans h.g, (hb.cell (World.block_lt_of_cell? w _ h.c)).trans h.c⟩

theorem join_len (sep : List UInt8) : ∀ (ls : List (List UInt8)), (∀ l ∈ ls, l.length ≤ 3) → (Lib.join ls sep).length ≤ ls.length * (3 + sep.length)
  | [], _ => by simp [Lib.join]
  | [x], h => by have := h x (by simp); simp [Lib.join]; omega
  | x :: y :: r, h => by
    have h1 := h x (by simp)
    have h2 := join_len sep (y :: r) (fun l hl => h l (by simp [hl]))
    have h3 : (Lib.join (x :: y :: r) sep).length = x.length + (sep.length + (Lib.join (y :: r) sep).length) := by simp [Lib.join, List.intercalate]
    rw [h3, List.length_cons, Nat.add_mul (y :: r).length 1]
    omega
theorem join_names (b off c : Nat) (xs : List Nat) (w : World) (hc : ∀ (j : Nat) x, xs[j]? = some x → w.cell? ⟨b, off + j, none⟩ = some (.string (nm x))) (hb : b < w.heap.size) (hN : xs.length ≤ 300) (hcap : xs.length ≤ c) :
    Calls Ybaf.prog 14 #[.slice (some ⟨b, off, none⟩) xs.length c, .string ⟨#[32, 45, 62, 32]⟩] w fun e w' => ∃ t, e = .returned (.string t) ∧ Below w.heap.size w w' := by
  have h := Ybaf.strings_Join b off c (xs.map nm) ⟨#[32, 45, 62, 32]⟩ w (fun j x hj => by
    rw [List.getElem?_map] at hj
    obtain ⟨y, hy, rfl⟩ := Option.map_eq_some_iff.1 hj
    exact hc j y hy) hb (by simp; omega) (by simpa using hcap) (by
    have := join_len [32, 45, 62, 32] ((xs.map nm).map (·.data.toList)) (fun l hl => by
      simp at hl
      obtain ⟨a, _, rfl⟩ := hl
      simp [nm, nmL])
    simp at this
    simp
    omega)
  rw [List.length_map] at h
  exact h.mono (fun e w' ⟨h1, h2⟩ => ⟨_, h1, h2⟩)

theorem find_range_least {n x : Nat} {f : Nat → Bool} (h : (List.range n).find? f = some x) : ∀ k, k < x → f k = false := fun k hk => by
  have hx : x < n := List.mem_range.1 (List.mem_of_find?_eq_some h)
  have := (List.find?_range_eq_some.1 h).2.2 k hk
  simpa using this
theorem makeMap_sized {P : Program} (t k e : TypeId) (ht : P.underlying t = some (.map k e)) (n : Int) (w : World) : (Instr.makeMap t (some (.int .i64 n))).run P w = .ok (.map (some w.heap.size)) (w.alloc (.map #[] 0)) := by
  simp [Instr.makeMap, run_underlying ht, Result.andThen]
  rfl

/-- What Order hands back. -/
def OrdEnd (w : World) (n : Nat) (deps : Nat → List Nat) (a : Addr) (e : Ending) (w' : World) : Prop :=
  Below w.heap.size w w' ∧
  (((ord deps n).length < n ∧ ∃ k, e = .returned (.tuple #[.slice none 0 0, .iface 77 (.pointer (some ⟨k, 0, none⟩))]) ∧ k < w'.heap.size ∧ w'.cell? ⟨k, 1, none⟩ = some (.iface 90 (.pointer (some a)))) ∨
   (Road deps n (ord deps n) ∧ (ord deps n).length = n ∧ ∃ b c, e = .returned (.tuple #[.slice (some ⟨b, 0, none⟩) n c, .nilIface]) ∧ w'.rowIs b 9 n (fun j => .string (nm ((ord deps n).getD j 0)))))

theorem getD_named {p : List Nat} {ws : Nat → Value} {i : Nat} (h : i < (named p ws).length) : ((named p ws)[i]'h).1 = nm (p.getD i 0) := by
  have hi : i < p.length := by simpa [named] using h
  simp [named, List.getElem?_eq_getElem hi]

structure OrdAt (w wr : World) (M md n : Nat) (pl : List Nat) (deps : Nat → List Nat) : Prop where
  cd : wr.cell? ⟨w.heap.size, 0, none⟩ = some (.map (some md))
  cp : wr.cell? ⟨M + 1, 0, none⟩ = some (.map (some M))
  hmp : StrMap wr M (named pl fun _ => .bool true)
  ids : wr.rowIs (w.heap.size + 1) 9 n (fun j => .string (nm j))
  out : wr.rowIs (M + 1 + 1) 9 n (fun j => .string (if j < pl.length then nm (pl.getD j 0) else ⟨#[]⟩))
  road : Road deps n pl
  old : Below w.heap.size w wr
  hM : w.heap.size + 1 < M
theorem OrdAt.setting {w wr : World} {M md n : Nat} {pl p : List Nat} {deps : Nat → List Nat} {ws : Nat → Value} (h : OrdAt w wr M md n pl deps)
    (hmd : StrMap w md (named p ws)) (perm : p.Perm (List.range n)) (hn : n ≤ 256) (names : ∀ i, i < n → IsNames w (ws i) (deps i)) (dlow : ∀ i, i < n → ∀ d ∈ deps i, d < 676) (dlen : ∀ i, i < n → (deps i).length ≤ 256) :
    Setting wr w.heap.size md (M + 1) M n p pl deps ws where
  cd := h.cd
  cp := h.cp
  hmd := hmd.of_block (h.old.block _ hmd.lt)
  hmp := h.hmp
  perm := perm
  low := h.road.low
  hn := hn
  names := fun i hi => by
    obtain ⟨ao, cap, hv, hc⟩ := names i hi
    refine ⟨ao, cap, hv, fun hne => ?_⟩
    obtain ⟨b, off, ha, hlt, hcs⟩ := hc hne
    exact ⟨b, off, ha, Nat.lt_of_lt_of_le hlt h.old.size, fun j hj => (h.old.cell hlt).trans (hcs j hj)⟩
  dlow := dlow
  dlen := dlen
theorem OrdAt.start {w w2 : World} {md n : Nat} {deps : Nat → List Nat} (i1 : w2.rowIs (w.heap.size + 1) 9 n (fun j => .string (nm j))) (i2 : w2.cell? ⟨w.heap.size, 0, none⟩ = some (.map (some md))) (i3 : Below w.heap.size w w2) :
    OrdAt w (((w2.alloc (.map #[] 0)).alloc (.cells #[.map (some w2.heap.size)] 52)).alloc (.cells (madeCells #[.string ⟨#[]⟩] n) 9)) w2.heap.size md n [] deps := by
  have s1 : (w2.alloc (.map #[] 0)).heap.size = w2.heap.size + 1 := Array.size_push _
  have s2 : ((w2.alloc (.map #[] 0)).alloc (.cells #[.map (some w2.heap.size)] 52)).heap.size = w2.heap.size + 1 + 1 := (Array.size_push _).trans (by rw [s1])
  have b1 := (Below.refl w2.heap.size w2).alloc (Nat.le_refl _) (.map #[] 0)
  have b2 := b1.alloc b1.size (.cells #[.map (some w2.heap.size)] 52)
  have b3 := b2.alloc b2.size (.cells (madeCells #[.string ⟨#[]⟩] n) 9)
  refine ⟨(b3.cell (World.block_lt_of_cell? _ _ i2)).trans i2, ?_, ((strMap_made w2).alloc _).alloc _, i1.of_block (b3.block _ i1.lt), ?_, Road.start _ _, i3.trans ⟨b3.os, b3.tape, b3.output, b3.size, fun k hk => b3.block k (Nat.lt_of_lt_of_le hk i3.size)⟩, i1.lt⟩
  · have c0 := cell_new1 (w2.alloc (.map #[] 0)) #[.map (some w2.heap.size)] 52 0 (.map (some w2.heap.size)) rfl
    rw [Addr.add_lit, s1] at c0
    exact (((Below.refl _ _).alloc (Nat.le_refl _) (.cells (madeCells #[.string ⟨#[]⟩] n) 9)).cell (World.block_lt_of_cell? _ _ c0)).trans c0
  · have := World.rowIs_made ((w2.alloc (.map #[] 0)).alloc (.cells #[.map (some w2.heap.size)] 52)) (.string ⟨#[]⟩) n 9
    rw [s2] at this
    exact this.congr (fun i _ => by simp)
theorem setM_true {pl : List Nat} {i : Nat} (hl : ∀ x ∈ pl, x < 676) (hi6 : i < 676) (hi : i ∉ pl) : setM (named pl fun _ => .bool true) (nm i) (.bool true) = named (pl ++ [i]) fun _ => .bool true := by
  rw [setM_new (by rw [getM_named _ hi6 pl hl, if_neg hi])]
  simp [named]
theorem OrdAt.step {w wr : World} {M md n : Nat} {pl : List Nat} {deps : Nat → List Nat} (h : OrdAt w wr M md n pl deps) (hn : n ≤ 256) (hl : pl.length < n) {i : Nat} (hi : nextFree deps n pl = some i) :
    OrdAt w (((World.putObj wr M (mapObj (named (pl ++ [i]) fun _ => .bool true))).alloc (.cells #[.string (nm i)] 9)).setCell ⟨M + 1 + 1, pl.length, none⟩ (.string (nm i))) M md n (pl ++ [i]) deps := by
  have hr := ready_iff.1 (List.find?_some hi)
  have hin : i < n := List.mem_range.1 (List.mem_of_find?_eq_some hi)
  have k : Kept [M, M + 1 + 1] wr (((World.putObj wr M (mapObj (named (pl ++ [i]) fun _ => .bool true))).alloc (.cells #[.string (nm i)] 9)).setCell ⟨M + 1 + 1, pl.length, none⟩ (.string (nm i))) :=
    (((Kept.refl _ wr).putObj (fun _ => by simp) _).alloc _).setCell (fun _ => by simp) _
  have hM := h.hM
  have hmp : StrMap (World.putObj wr M (mapObj (named (pl ++ [i]) fun _ => .bool true))) M (named (pl ++ [i]) fun _ => .bool true) := by
    have := h.hmp.put (nm i) (.bool true)
    rwa [setM_true (fun x hx => by have := h.road.low x hx; omega) (by omega) hr.1] at this
  refine ⟨(k.cell (World.block_lt_of_cell? _ _ h.cd) (by simp; omega)).trans h.cd, (k.cell (World.block_lt_of_cell? _ _ h.cp) (by simp)).trans h.cp, (hmp.alloc _).setCell (by show M ≠ M + 1 + 1; omega) _, k.row h.ids (by simp; omega), ?_, h.road.step hl hi, h.old.trans (k.below h.old.size (by simp; omega)), hM⟩
  refine (((rowIs_putObj h.out (by omega) _).alloc _).set pl.length _).congr (fun j hj => ?_)
  by_cases hjs : j = pl.length
  · subst hjs
    simp
  · rw [if_neg hjs]
    by_cases hj2 : j < pl.length
    · rw [if_pos hj2, if_pos (by simp; omega)]
      simp [List.getElem?_append_left hj2]
    · rw [if_neg hj2, if_neg (by simp; omega)]

set_option maxRecDepth 100000 in
set_option maxHeartbeats 1600000 in
theorem order_any (F : Interp) (a : Addr) (s : ByteArray) (md n : Nat) (p : List Nat) (deps : Nat → List Nat) (ws : Nat → Value) (w : World) (hF : F.answers w.tape) (hse : Sent w a s)
    (hmd : StrMap w md (named p ws)) (perm : p.Perm (List.range n)) (hn : n ≤ 256) (names : ∀ i, i < n → IsNames w (ws i) (deps i)) (dlow : ∀ i, i < n → ∀ d ∈ deps i, d < 676) (dlen : ∀ i, i < n → (deps i).length ≤ 256) :
    Calls Ybaf.prog 7 #[.map (some md)] w (OrdEnd w n deps a) := by
  have HSE := hidE hse
  have HF := hidE hF
  have HNM := hidE names
  have HDL := hidE dlow
  have HDN := hidE dlen
  have hpl : p.length = n := by simpa using perm.length_eq
  have hL : (named p ws).length = n := by simp [named, hpl]
  have HPERM := hidE perm
  have hmdlt : md < w.heap.size := hmd.lt
  clear hF hse names dlow dlen perm
  obtain ⟨L, hLe⟩ : ∃ L, L = named p ws := ⟨_, rfl⟩
  rw [← hLe] at hmd hL
  have HLE := hidE hLe
  have HPL := hidE hpl
  clear hLe hpl
  have hlen := fun ty => len_map (P := Ybaf.prog) (w.alloc (.cells #[.map (some md)] 49)) 49 9 34 ty Ybaf.underlying49 md L (hmd.alloc _)
  rw [hL] at hlen
  have hmk := run_make_room (P := Ybaf.prog) 34 9 (.string ⟨#[]⟩) 16 Ybaf.underlying34 info9 rfl .i64 .i64 n (by omega) (by omega)
  have hrg := run_range_map (P := Ybaf.prog) ((w.alloc (.cells #[.map (some md)] 49)).alloc (.cells (madeCells #[.string ⟨#[]⟩] n) 9)) 49 9 34 md (ents L 0).toArray L.length Ybaf.underlying49 ((hmd.alloc _).alloc _).1
  rw [hL] at hrg
  obtain ⟨wz, hwz⟩ : ∃ wz, wz = ((w.alloc (.cells #[.map (some md)] 49)).alloc (.cells (madeCells #[.string ⟨#[]⟩] n) 9)).alloc (.mapIter (some md) n #[] n) := ⟨_, rfl⟩
  have h0 : Hid (wz.cell? ⟨w.heap.size, 0, none⟩ = some (.map (some md))) := by
    have c0 := cell_new1 w #[.map (some md)] 49 0 (.map (some md)) rfl
    rw [Addr.add_lit] at c0
    rw [hwz]
    have b1 := (Below.refl _ (w.alloc (.cells #[.map (some md)] 49))).alloc (Nat.le_refl _) (.cells (madeCells #[.string ⟨#[]⟩] n) 9)
    have b2 := b1.alloc b1.size (.mapIter (some md) n #[] n)
    exact (b2.cell (World.block_lt_of_cell? _ _ c0)).trans c0
  have h1 : Hid (wz.rowIs (w.heap.size + 1) 9 n (fun _ => .string ⟨#[]⟩)) := by
    rw [hwz]
    have := World.rowIs_made (w.alloc (.cells #[.map (some md)] 49)) (.string ⟨#[]⟩) n 9
    rw [show (w.alloc (.cells #[.map (some md)] 49)).heap.size = w.heap.size + 1 from Array.size_push _] at this
    exact this.alloc _
  have h2 : Hid (wz.heap[w.heap.size + 1 + 1]? = some (.mapIter (some md) n #[] n)) := by
    rw [hwz]
    have := heap_alloc_new ((w.alloc (.cells #[.map (some md)] 49)).alloc (.cells (madeCells #[.string ⟨#[]⟩] n) 9)) (.mapIter (some md) n #[] n)
    rwa [show ((w.alloc (.cells #[.map (some md)] 49)).alloc (.cells (madeCells #[.string ⟨#[]⟩] n) 9)).heap.size = w.heap.size + 1 + 1 from by simp] at this
  have h4 : Hid (Below w.heap.size w wz) := by
    rw [hwz]
    have b1 := (Below.refl w.heap.size w).alloc (Nat.le_refl _) (.cells #[.map (some md)] 49)
    have b2 := b1.alloc b1.size (.cells (madeCells #[.string ⟨#[]⟩] n) 9)
    exact b2.alloc b2.size _
  have HMD := hidE hmd
  clear hmd
  go_enter Ybaf.func7, Ybaf.ntmps7
  go_wp2_with fail
  rw [← hwz]
  clear hmk hrg hlen hwz
  go_loopw [4] (fun s4 wr => ∃ seen : List Nat, seen.length ≤ n ∧ s4 = .slice (some ⟨w.heap.size + 1, 0, none⟩) seen.length n ∧ Hid (seen.Nodup ∧ ∀ x ∈ seen, x < n) ∧ Hid (wr.cell? ⟨w.heap.size, 0, none⟩ = some (.map (some md))) ∧ Hid (wr.rowIs (w.heap.size + 1) 9 n (fun j => .string (if j < seen.length then nm (p.getD (seen.getD j 0) 0) else ⟨#[]⟩))) ∧ Hid (wr.heap[w.heap.size + 1 + 1]? = some (.mapIter (some md) n seen.toArray n)) ∧ Hid (Below w.heap.size w wr)) (fun s4 _ => n - slen s4)
  case atStart => exact ⟨[], by simp, rfl, ⟨List.nodup_nil, by simp⟩, h0, h1.out.congr (fun i _ => by simp), h2, h4⟩
  case round =>
    clear h0 h1 h2 h4
    obtain ⟨seen, hsl, rfl, hsn, h0, h1, h2, h4⟩ := hrel
    have h3 : StrMap wr md L := HMD.out.of_block (h4.out.block _ hmdlt)
    have hn2 := run_next_str (P := Ybaf.prog) wr 0 (w.heap.size + 1 + 1) md L seen.toArray (by rw [hL]; exact h2.out) h3
    rcases hn2 with ⟨hall, hnx⟩ | ⟨i, hi, q, hni, hnx⟩
    · rw [hL] at hall
      have hps : seen.Perm (List.range n) := seen_all hsn.out.1 hsn.out.2 (fun i hi => by simpa using hall i hi)
      have hsl2 : seen.length = n := by simpa using hps.length_eq
      have hss : ((seen.map fun i => p.getD i 0).map nmL).length = seen.length := by simp
      have hsort := sort_row (w.heap.size + 1) n n _ ((seen.map fun i => p.getD i 0).map nmL) wr h1.out (by simp; omega) (by omega) (fun j hj => by
        have hj' : j < seen.length := by simpa using hj
        rw [if_pos hj']
        simp [nm, List.getElem?_eq_getElem hj'])
      have hnames : sortS ((seen.map fun i => p.getD i 0).map nmL) = (List.range n).map nmL := sortS_names ((perm_getD HPL.out hps).trans HPERM.out) List.pairwise_lt_range (fun x hx => by have := List.mem_range.1 hx; omega)
      rw [hss, hsl2, hnames] at hsort
      rw [hsl2]
      clear hss hnames
      go_wp2_with fail
      refine hsort.mono ?_
      rintro e w2 ⟨rfl, hrow, hk2⟩
      have i1 : Hid (w2.rowIs (w.heap.size + 1) 9 n (fun j => .string (nm j))) := hrow.congr (fun j hj => by
        rw [if_pos hj]
        simp [nm, hj])
      have i2 : Hid (w2.cell? ⟨w.heap.size, 0, none⟩ = some (.map (some md))) := (hk2.cell (World.block_lt_of_cell? _ _ h0.out) (by simp)).trans h0.out
      have i3 : Hid (Below w.heap.size w w2) := h4.out.trans (hk2.below h4.out.size (by simp))
      have hsz : w.heap.size + 1 < w2.heap.size := i1.out.lt
      clear hsort hrow hk2 h0 h1 h2 h3 h4 hall hnx hsn hps hsl2 hsl
      have hmm := fun wx => makeMap_sized (P := Ybaf.prog) 52 9 4 Ybaf.underlying52 n wx
      have hmk := run_make_room (P := Ybaf.prog) 34 9 (.string ⟨#[]⟩) 16 Ybaf.underlying34 info9 rfl .i64 .i64 n (by omega) (by omega)
      have j0 := hidE (OrdAt.start (deps := deps) i1.out i2.out i3.out)
      go_wp2_with fail
      clear i1 i2 i3 hmm hmk hsz
      generalize ((w2.alloc (.map #[] 0)).alloc (.cells #[.map (some w2.heap.size)] 52)).alloc (.cells (madeCells #[.string ⟨#[]⟩] n) 9) = wq at *
      generalize w2.heap.size = M at *
      go_loopw [8] (fun s8 wr => ∃ pl : List Nat, pl.length ≤ n ∧ s8 = .slice (some ⟨M + 1 + 1, 0, none⟩) pl.length n ∧ Hid (OrdAt w wr M md n pl deps)) (fun s8 _ => n - slen s8)
      case atStart => exact ⟨[], by simp, rfl, j0⟩
      case round =>
        clear j0
        obtain ⟨pl, hple, rfl, j0⟩ := hrel
        have hmdn : StrMap w md (named p ws) := by rw [← HLE.out]; exact HMD.out
        have JS := hidE (j0.out.setting hmdn HPERM.out hn HNM.out HDL.out HDN.out)
        clear hmdn
        have hcp := j0.out.cp
        by_cases hplt : pl.length < n
        · go_wp2_with fail
          go_loop [9, 41] (fun s9 s41 => ∃ k : Nat, k ≤ n ∧ s9 = .string ⟨#[]⟩ ∧ s41 = .int .i64 k ∧ Hid (∀ j, j < k → ready deps n pl j = false)) (fun _ s41 => n - (intOf s41).toNat)
          case atStart => exact ⟨0, by omega, rfl, rfl, fun j hj => absurd hj (by omega)⟩
          case round =>
            obtain ⟨k, hk, rfl, rfl, hnr⟩ := hrel
            by_cases hkn : k < n
            · have hc := j0.out.ids.cell hkn
              have hlk := run_lookup_str (P := Ybaf.prog) wr 52 9 4 Ybaf.underlying52 Ybaf.underlying9 M _ j0.out.hmp (nm k) _ (zero4 wr)
              rw [getM_named _ (by omega) pl (fun x hx => by have := j0.out.road.low x hx; omega)] at hlk
              by_cases hkp : k ∈ pl
              · rw [if_pos hkp, Option.getD_some] at hlk
                go_wp2_with fail
                go_round
                case rel => exact ⟨k + 1, by omega, rfl, by go_num, fun j hj => by
                  rcases Nat.lt_or_ge j k with h | h
                  · exact hnr.out j h
                  · have : j = k := by omega
                    subst this
                    cases hb : ready deps n pl j with
                    | false => rfl
                    | true => exact absurd hkp (ready_iff.1 hb).1⟩
                case measure => simp [intOf]; omega
              · rw [if_neg hkp, Option.getD_none] at hlk
                have hcl := JS.out.clos hkn
                cases hmin : minW n pl (deps k) with
                | none =>
                  rw [hmin] at hcl
                  have hnf : Hid (nextFree deps n pl = some k) := by
                    refine hidE ?_
                    have hrk : ready deps n pl k = true := ready_iff.2 ⟨hkp, hmin⟩
                    cases hf : nextFree deps n pl with
                    | none => exact absurd hrk (List.find?_eq_none.1 hf k (List.mem_range.2 hkn))
                    | some x =>
                      have hx1 := List.find?_some hf
                      have hx2 : x < n := List.mem_range.1 (List.mem_of_find?_eq_some hf)
                      rcases Nat.lt_trichotomy x k with h | h | h
                      · rw [hnr.out x h] at hx1; cases hx1
                      · rw [h]
                      · have := find_range_least hf k h
                        rw [hrk] at this; cases this
                  have HMIN := hidE hmin
                  clear hmin
                  go_wp2_with fail
                  refine hcl.mono ?_
                  rintro e w3 ⟨rfl, rfl⟩
                  have he : (nmO none).toList = [] := empty_toList
                  have he1 : (nm k).toList = nmL k := nm_toList k
                  have he2 : (nmL k).isEmpty = false := rfl
                  have he3 : ¬ nmL k = [] := by simp [nmL]
                  clear hcl
                  have hmu := run_mapUpdate_str (P := Ybaf.prog) w3 52 9 4 Ybaf.underlying52 Ybaf.underlying9 M _ j0.out.hmp (nm k) (.bool true)
                  rw [setM_true (fun x hx => by have := j0.out.road.low x hx; omega) (by omega) hkp] at hmu
                  obtain ⟨u, hu⟩ : ∃ u, ((World.putObj w3 M (mapObj (named (pl ++ [k]) fun _ => .bool true))).alloc (.cells #[.string (nm k)] 9)).cell? ⟨M + 1 + 1, pl.length, none⟩ = some u := ⟨_, ((rowIs_putObj j0.out.out (by omega) _).alloc _).cell hplt⟩
                  have hfz : ((World.putObj w3 M (mapObj (named (pl ++ [k]) fun _ => .bool true))).alloc (.cells #[.string (nm k)] 9)).frozen? ⟨M + 1 + 1, pl.length, none⟩ = false := ((rowIs_putObj j0.out.out (by omega) _).alloc _).frozen _
                  have j1 := hidE (j0.out.step hn hplt hnf.out)
                  go_wp2_with fail
                  go_roundw
                  case rel => exact ⟨pl ++ [k], by simp; omega, by simp, j1⟩
                  case measure => simp [slen]; omega
                | some d =>
                  rw [hmin] at hcl
                  have HMIN := hidE hmin
                  clear hmin
                  go_wp2_with fail
                  refine hcl.mono ?_
                  rintro e w3 ⟨rfl, rfl⟩
                  clear hcl
                  have he : (nmO (some d)).toList = nmL d := nm_toList d
                  have he1 : (nmL d).isEmpty = false := rfl
                  have he2 : ¬ nmL d = [] := by simp [nmL]
                  go_wp2_with fail
                  go_round
                  case rel => exact ⟨k + 1, by omega, rfl, by go_num, fun j hj => by
                    rcases Nat.lt_or_ge j k with h | h
                    · exact hnr.out j h
                    · have : j = k := by omega
                      subst this
                      cases hb : ready deps n pl j with
                      | false => rfl
                      | true => have := (ready_iff.1 hb).2; rw [HMIN.out] at this; cases this⟩
                  case measure => simp [intOf]; omega
            · have hnf : nextFree deps n pl = none := List.find?_eq_none.2 (fun x hx => by
                have := List.mem_range.1 hx
                rw [hnr.out x (by omega)]
                simp)
              have HNF := hidE hnf
              have JD := hidE (JS.out.below ((Below.refl _ wr).drew))
              have JB := hidE (j0.out.old.drew)
              have G0 : wr.drew.cell? ⟨0, 0, none⟩ = some (.iface 90 (.pointer (some a))) := (HSE.out.below JB.out).g
              have hcp' : wr.drew.cell? ⟨M + 1, 0, none⟩ = some (.map (some M)) := hcp
              clear hnf
              go_wp2_with fail
              go_region_with (first
                | (go_at_call 15
                   refine (cycle_any (w.heap.size + 1) n w.heap.size md (M + 1) M n p pl deps ws _ ?_ ?_ ?_ ?_ ?_).mono ?_
                   · exact JD.out
                   · exact j0.out.ids
                   · exact HNF.out
                   · exact j0.out.road.nodup
                   · exact hplt
                   rintro e w4 ⟨b4, off4, cap4, xs4, rfl, hx1, hx2, hx3, hx4, hbel4⟩
                   have HB4 : Hid (Below w.heap.size w w4) := JB.out.trans ⟨hbel4.os, hbel4.tape, hbel4.output, hbel4.size, fun k hk => hbel4.block k (Nat.lt_of_lt_of_le hk JB.out.size)⟩
                   have HX4 := hidE hx4
                   clear hbel4 hx4
                   have G4 : w4.cell? ⟨0, 0, none⟩ = some (.iface 90 (.pointer (some a))) := (HSE.out.below HB4.out).g)
                | (go_at_call 14
                   refine (join_names b4 off4 cap4 xs4 _ ?_ ?_ ?_ ?_).mono ?_
                   · exact HX4.out
                   · exact hx3
                   · exact hx1
                   · exact hx2
                   rintro e w5 ⟨t5, rfl, hbel5⟩
                   have HB5 : Hid (Below w.heap.size w w5) := HB4.out.trans ⟨hbel5.os, hbel5.tape, hbel5.output, hbel5.size, fun k hk => hbel5.block k (Nat.lt_of_lt_of_le hk HB4.out.size)⟩
                   clear hbel5
                   have G5 : w5.cell? ⟨0, 0, none⟩ = some (.iface 90 (.pointer (some a))) := (HSE.out.below HB5.out).g)
                | (go_at_call 13
                   refine (errorf_any F a s t5 _ _ ?_ ?_ ?_ ?_).mono ?_
                   · show F.answers w5.tape
                     rw [HB5.out.tape]
                     exact HF.out
                   · exact (HSE.out.below (HB5.out.alloc HB5.out.size _)).c
                   · simp
                   · simp
                   rintro e w6 ⟨k6, rfl, hk6, hc6, hbel6⟩
                   have HB6 : Hid (Below w.heap.size w w6) := (HB5.out.alloc HB5.out.size _).trans ⟨hbel6.os, hbel6.tape, hbel6.output, hbel6.size, fun k hk => hbel6.block k (Nat.lt_of_lt_of_le hk (HB5.out.alloc HB5.out.size _).size)⟩
                   have HC6 := hidE hc6
                   clear hbel6 hc6))
              all_goals (
                have HE : Hid (OrdEnd w n deps a (.returned (.tuple #[.slice none 0 0, .iface 77 (.pointer (some ⟨k6, 0, none⟩))])) w6) := ⟨HB6.out, .inl ⟨by rw [j0.out.road.stuck HNF.out]; exact hplt, k6, rfl, hk6, HC6.out⟩⟩
                go_wp2_with fail
                exact bodyPost_ret (v := .tuple #[.slice none 0 0, .iface 77 (.pointer (some ⟨k6, 0, none⟩))]) (by simp [results, Ybaf.results7, go_sem]) rfl HE.out)
        · have hfull := j0.out.road.full hplt
          have hpe : pl.length = n := by omega
          have HE : Hid (OrdEnd w n deps a (.returned (.tuple #[.slice (some ⟨M + 1 + 1, 0, none⟩) pl.length n, .nilIface])) wr) := by
            refine ⟨j0.out.old, .inr ⟨by rw [hfull]; exact j0.out.road, by rw [hfull]; exact hpe, M + 1 + 1, n, by rw [hpe], ?_⟩⟩
            rw [hfull]
            exact j0.out.out.congr (fun j hj => by rw [if_pos (by omega)])
          have HPE := hidE hpe
          clear hfull hpe
          go_wp2_with fail
          exact bodyPost_ret (v := .tuple #[.slice (some ⟨M + 1 + 1, 0, none⟩) pl.length n, .nilIface]) (by simp [results, Ybaf.results7, go_sem]) rfl HE.out
    · rw [hL] at hnx
      obtain ⟨pk, hpk⟩ : ∃ pk, pk = p.getD i 0 := ⟨_, rfl⟩
      have hkey : (L[i]'hi).1 = nm pk := by
        rw [hpk]
        have hLE := HLE.out
        subst hLE
        exact getD_named hi
      have HPK := hidE hpk
      clear hpk
      have hin : i < n := by omega
      have hlt2 : seen.length < n := by
        rcases Nat.lt_or_ge seen.length n with h | h
        · exact h
        · exfalso
          have hp2 := seen_full hsn.out.1 hsn.out.2 (by omega) i hin
          exact hni (by simpa using hp2)
      obtain ⟨wy, hwy⟩ : ∃ wy, wy = World.putObj (wr.drewN q) (w.heap.size + 1 + 1) (.mapIter (some md) n (seen.toArray.push i) n) := ⟨_, rfl⟩
      rw [← hwy] at hnx
      have hilt : w.heap.size + 1 + 1 < wr.heap.size := (Array.getElem?_eq_some_iff.1 h2.out).1
      have kw : Kept [w.heap.size + 1 + 1] wr wy := by
        rw [hwy]
        exact ((Kept.refl _ wr).drewN q).putObj (fun _ => by simp) _
      have g0 : Hid (wy.cell? ⟨w.heap.size, 0, none⟩ = some (.map (some md))) := (kw.cell (World.block_lt_of_cell? _ _ h0.out) (by simp; omega)).trans h0.out
      have g1 : Hid (wy.rowIs (w.heap.size + 1) 9 n (fun j => .string (if j < seen.length then nm (p.getD (seen.getD j 0) 0) else ⟨#[]⟩))) := kw.row h1.out (by simp)
      have g2 : wy.heap[w.heap.size + 1 + 1]? = some (.mapIter (some md) n (seen.toArray.push i) n) := by
        rw [hwy]; exact putObj_same (w := wr.drewN q) hilt
      have g3 : StrMap wy md L := kw.strMap h3 (by simp; omega)
      have g4 : Hid (Below w.heap.size w wy) := h4.out.trans (kw.below h4.out.size (by simp; omega))
      have hent := run_entry_str (P := Ybaf.prog) wy (w.heap.size + 1 + 1) md L seen.toArray i hi (by rw [hL]; exact g2) g3
      rw [hkey] at hent hnx
      obtain ⟨u, hu⟩ : ∃ u, (wy.alloc (.cells #[.string (nm pk)] 9)).cell? ⟨w.heap.size + 1, seen.length, none⟩ = some u := ⟨_, (g1.out.alloc _).cell hlt2⟩
      have hfz : (wy.alloc (.cells #[.string (nm pk)] 9)).frozen? ⟨w.heap.size + 1, seen.length, none⟩ = false := (g1.out.alloc _).frozen _
      have G2 := hidE g2
      clear g2 g3 hwy h3 hkey
      generalize (L[i]'hi).2 = v2 at *
      go_wp2_with fail
      go_roundw
      case rel =>
        have k2 : Kept [w.heap.size + 1] wy ((wy.alloc (.cells #[.string (nm pk)] 9)).setCell ⟨w.heap.size + 1, seen.length, none⟩ (.string (nm pk))) := ((Kept.refl _ wy).alloc _).setCell (fun _ => by simp) _
        refine ⟨seen ++ [i], by simp; omega, by simp, ⟨?_, ?_⟩, (k2.cell (World.block_lt_of_cell? _ _ g0.out) (by simp)).trans g0.out, ((g1.out.alloc _).set seen.length _).congr (fun j hj => ?_), ?_, g4.out.trans (k2.below g4.out.size (by simp))⟩
        · rw [List.nodup_append]
          refine ⟨hsn.out.1, by simp, fun a ha b hb' => ?_⟩
          have : b = i := by simpa using hb'
          subst this
          exact fun e => hni (by simpa using e ▸ ha)
        · intro x hx
          rcases List.mem_append.1 hx with hx | hx
          · exact hsn.out.2 x hx
          · have : x = i := by simpa using hx
            omega
        · by_cases hjs : j = seen.length
          · subst hjs
            simp [HPK.out]
          · rw [if_neg hjs]
            by_cases hj2 : j < seen.length
            · rw [if_pos hj2, if_pos (by simp; omega)]
              simp [List.getElem?_append_left hj2]
            · rw [if_neg hj2, if_neg (by simp; omega)]
        · refine (k2.block _ (Array.getElem?_eq_some_iff.1 G2.out).1 (by simp)).trans (G2.out.trans ?_)
          simp
      case measure => simp [slen]; omega
end Go.Proofs.YbulkcxswFmt
