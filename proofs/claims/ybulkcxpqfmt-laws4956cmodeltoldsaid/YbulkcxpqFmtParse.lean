import Derived.Test.YbulkcxpqFmtPay
import Derived.Deep.AppendLies
namespace Go.Proofs.YbulkcxpqFmt
open Go.RowKit

theorem info3 : (Ybaf.prog.info? 3).map (fun i => (i.zero, i.size, i.bytes)) = some (some (.int .i64 0), 1, 8) := by kernel_rfl

theorem u64_src {w : World} {g o c : Nat} {zs : List Int} (hb : Bytes zs) (hp : 8 ≤ zs.length) (hS : Src w g o zs) :
    Calls Ybaf.prog 14 #[.agg #[], .slice (some ⟨g, o, none⟩) 8 c] w fun e w' => e = .returned (.int .u64 (Lib.beZ (zs.take 8))) ∧ Below w.heap.size w w' :=
  Ybaf.binary_BE_Uint64_z ⟨g, o, none⟩ 8 c zs w (by omega) (by omega) (fun i hi => by rw [Go.WideShapes.add_plain]; exact hS i hi) (bytes_wf hb)
theorem u32_src {w : World} {g o c : Nat} {zs : List Int} {p : Nat} (hb : Bytes zs) (hp : p + 4 ≤ zs.length) (hS : Src w g o zs) :
    Calls Ybaf.prog 15 #[.agg #[], .slice (some ⟨g, o + p, none⟩) 4 c] w fun e w' => e = .returned (.int .u32 (be4 zs p : Nat)) ∧ Below w.heap.size w w' := by
  have hl : ((zs.drop p).take 4).length = 4 := by simp; omega
  have hc := Ybaf.binary_BE_Uint32_z ⟨g, o + p, none⟩ 4 c ((zs.drop p).take 4) w (by omega) (by omega) (fun i hi => by
    rw [Go.WideShapes.add_plain]
    have h := hS (p + i) (by omega)
    rw [Nat.add_assoc, h, List.getD, List.getD, List.getElem?_take_of_lt (by omega), List.getElem?_drop]) (bytes_wf (hb.part p 4))
  rw [List.take_take, Nat.min_self, ← (be4_eq zs hb p hp).1] at hc
  exact hc

/-- Two rows of numbers that the parse makes: where the parts begin; how long they are. -/
structure Rows2 (w wr : World) (acc : List (Nat × Nat)) (v1 v2 : Value) : Prop where
  o1 : wr.ownsRow w.heap.size 3 1 v1 acc.length (acc.map (fun p => .int .i64 (p.1 : Nat)))
  o2 : wr.ownsRow w.heap.size 3 1 v2 acc.length (acc.map (fun p => .int .i64 (p.2 : Nat)))
  ne : ∀ x, v1.ownBlock = some x → v2.ownBlock ≠ some x
  hB : Below w.heap.size w wr

theorem Rows2.kept {w wr w' : World} {acc : List (Nat × Nat)} {v1 v2 : Value} (h : Rows2 w wr acc v1 v2) (hK : Kept [] wr w') : Rows2 w w' acc v1 v2 :=
  ⟨hK.owns h.o1 (by simp), hK.owns h.o2 (by simp), h.ne, h.hB.trans (hK.below h.hB.size (by simp))⟩

theorem rows2_step {w wr w1 w2 : World} {acc : List (Nat × Nat)} {v1 v2 : Value} {p k g1 c1 g2 c2 : Nat} {x1 x2 : Obj} (h : Rows2 w wr acc v1 v2)
    (a1 : w1.ownsRow w.heap.size 3 1 (.slice (some ⟨g1, 0, none⟩) (acc.length + 1) c1) (acc.length + 1) (acc.map (fun p => .int .i64 (p.1 : Nat)) ++ [.int .i64 (p : Nat)])) (b1 : (wr.alloc x1).grownBy w1 v1.ownBlock) (l1 : v1.ownBlock = some g1 ∨ g1 = wr.heap.size + 1) (t1 : g1 < w1.heap.size)
    (a2 : w2.ownsRow w.heap.size 3 1 (.slice (some ⟨g2, 0, none⟩) (acc.length + 1) c2) (acc.length + 1) (acc.map (fun p => .int .i64 (p.2 : Nat)) ++ [.int .i64 (k : Nat)])) (b2 : (w1.alloc x2).grownBy w2 v2.ownBlock) (l2 : v2.ownBlock = some g2 ∨ g2 = w1.heap.size + 1) :
    Rows2 w w2 (acc ++ [(p, k)]) (.slice (some ⟨g1, 0, none⟩) (acc ++ [(p, k)]).length c1) (.slice (some ⟨g2, 0, none⟩) (acc ++ [(p, k)]).length c2) := by
  have hlt2 : ∀ x, v2.ownBlock = some x → x < wr.heap.size := fun x hx => (h.o2.lt x hx).2
  have hne : v2.ownBlock ≠ some g1 := fun e => by
    rcases l1 with l1 | l1
    · exact h.ne g1 l1 e
    · have := hlt2 g1 e; omega
  have hl : (acc ++ [(p, k)]).length = acc.length + 1 := by simp
  refine ⟨?_, ?_, ?_, ?_⟩
  · rw [hl, List.map_append]
    exact (a1.alloc x2).kept b2 (.inr (fun e => hne (by rw [← e]; rfl)))
  · rw [hl, List.map_append]; exact a2
  · intro x hx e
    simp [Value.ownBlock] at hx e
    subst hx
    rcases l2 with l2 | l2
    · exact hne (by rw [l2, e])
    · omega
  · have B1 := (h.hB.alloc h.hB.size x1).grown b1 (by have := h.hB.size; simp; omega) (fun x hx => (h.o1.lt x hx).1)
    exact (B1.alloc B1.size x2).grown b2 (by have := B1.size; simp; omega) (fun x hx => (h.o2.lt x hx).1)
theorem rows2_mid {w wr w1 : World} {acc : List (Nat × Nat)} {v1 v2 : Value} {x1 : Obj} (h : Rows2 w wr acc v1 v2) (b1 : (wr.alloc x1).grownBy w1 v1.ownBlock) :
    w1.ownsRow w.heap.size 3 1 v2 acc.length (acc.map (fun p => .int .i64 (p.2 : Nat))) :=
  (h.o2.alloc x1).kept b1 (by
    cases hv : v2.ownBlock with
    | none => exact .inl rfl
    | some x => exact .inr (fun e => h.ne x e.symm hv))

/-- What zzs4956cparse hands back. -/
def ParseEnd (w : World) (zs : List Int) (e : Ending) (w' : World) : Prop :=
  Below w.heap.size w w' ∧
  ((e = .returned (.tuple #[.int .u64 0, .slice none 0 0, .slice none 0 0, .bool false]) ∧ parse zs = none) ∨
   (∃ r l v1 v2, e = .returned (.tuple #[.int .u64 r, v1, v2, .bool true]) ∧ parse zs = some (r, l) ∧ Rows2 w w' l v1 v2))

theorem parse10_short (pa : Option Addr) (n c : Nat) (w : World) (h : n < 8) :
    Calls Ybaf.prog 10 #[.slice pa n c] w fun e w' => e = .returned (.tuple #[.int .u64 0, .slice none 0 0, .slice none 0 0, .bool false]) ∧ w' = w := by
  go_enter Ybaf.func10, Ybaf.ntmps10
  go_wp2_with fail
  exact bodyPost_ret (v := .tuple #[.int .u64 0, .slice none 0 0, .slice none 0 0, .bool false]) (by simp [results, Ybaf.results10, go_sem]) rfl ⟨rfl, rfl⟩

def ParseAt (w wr : World) (n : Nat) (zs : List Int) (p : Nat) (acc : List (Nat × Nat)) (v1 v2 : Value) : Prop :=
  p ≤ n ∧ Stands zs 8 acc p ∧ Rows2 w wr acc v1 v2
theorem hidP {p : Prop} (h : p) : Hid p := h

set_option maxHeartbeats 1000000 in
theorem parse10_any {w : World} {g o n c : Nat} {zs : List Int} (hS : Src w g o zs) (hz : zs.length = n) (hbs : Bytes zs) (hg : g < w.heap.size) (h8 : 8 ≤ n) (hn : n ≤ 4194304) (hnc : n ≤ c) (hc : c ≤ maxLen) :
    Calls Ybaf.prog 10 #[.slice (some ⟨g, o, none⟩) n c] w (ParseEnd w zs) := by
  unfold maxLen at hc
  have H64 := u64_src (w := w.drew) (c := c) hbs (by omega) hS
  have H8 : Hid (¬ zs.length < 8) := by show ¬ _; omega
  have HS : Hid (Src w g o zs) := hS
  clear hS
  obtain ⟨i0, hi, hz0, hz1, hz2⟩ := info_parts info3
  have hc8 : (8 : Int) ≤ (c : Int) := by omega
  go_enter Ybaf.func10, Ybaf.ntmps10
  go_wp2_with fail
  go_region_with (go_at_call 14; refine H64.mono ?_; rintro e w1 ⟨rfl, hb1⟩)
  have hst : Hid (ParseAt w w1 n zs 8 [] (.slice none 0 0) (.slice none 0 0)) := ⟨h8, stands_start _ _, World.ownsRow_nil _ _ _ _, World.ownsRow_nil _ _ _ _, by simp [Value.ownBlock], (Below.refl _ w).drew.trans (hb1.mono (Nat.le_refl _))⟩
  clear hb1 H64
  generalize hR : Lib.beZ (zs.take 8) = R
  have HR : Hid (Lib.beZ (zs.take 8) = R) := hR
  clear hR
  go_wp2_with fail
  go_loopw [7, 8, 9] (fun s7 s8 s9 wr => ∃ (p : Nat) (acc : List (Nat × Nat)) (a1 a2 : Option Addr) (c1 c2 : Nat), s7 = .slice a1 acc.length c1 ∧ s8 = .slice a2 acc.length c2 ∧ s9 = .int .i64 p ∧ Hid (ParseAt w wr n zs p acc (.slice a1 acc.length c1) (.slice a2 acc.length c2))) (fun _ _ s9 _ => n - (intOf s9).toNat)
  case atStart => exact ⟨8, [], none, none, 0, 0, rfl, rfl, rfl, hst⟩
  case round =>
    obtain ⟨p, acc, a1, a2, c1, c2, rfl, rfl, rfl, hat⟩ := hrel
    clear hst
    have hp := hat.out.1
    have hsd : Hid (Stands zs 8 acc p) := hat.out.2.1
    have hacc : acc.length ≤ 1000 := hsd.out.1
    have hrows : Hid (Rows2 w wr acc (.slice a1 acc.length c1) (.slice a2 acc.length c2)) := hat.out.2.2
    clear hat
    by_cases hpn : p < n
    · by_cases hcnt : acc.length = 1000
      · have hend : Hid (ParseEnd w zs (.returned (.tuple #[.int .u64 0, .slice none 0 0, .slice none 0 0, .bool false])) wr) := ⟨hrows.out.hB, .inl ⟨rfl, parse_none (hsd.out.many (by omega) hcnt)⟩⟩
        go_wp2_with fail
        exact bodyPost_ret (v := .tuple #[.int .u64 0, .slice none 0 0, .slice none 0 0, .bool false]) (by simp [results, Ybaf.results10, go_sem]) rfl hend.out
      · by_cases h4 : n - p < 4
        · have hend : Hid (ParseEnd w zs (.returned (.tuple #[.int .u64 0, .slice none 0 0, .slice none 0 0, .bool false])) wr) := ⟨hrows.out.hB, .inl ⟨rfl, parse_none (hsd.out.short (by omega) (by omega))⟩⟩
          go_wp2_with fail
          exact bodyPost_ret (v := .tuple #[.int .u64 0, .slice none 0 0, .slice none 0 0, .bool false]) (by simp [results, Ybaf.results10, go_sem]) rfl hend.out
        · have HSr : Src wr g o zs := fun j hj => (hrows.out.hB.cell (p := ⟨g, o + j, none⟩) hg).trans (HS.out j hj)
          have H32 := u32_src (w := wr.drew) (c := c - p) hbs (p := p) (by omega) HSr
          have hbe := (be4_eq zs hbs p (by omega)).2
          clear HSr
          have g1 : IntKind.i64.wrap ((p : Int) + 4) = (p : Int) + 4 := by rw [IntKind.wrap_i64]; omega
          have g2 : ((p : Int) + 4).toNat = p + 4 := by omega
          have g3 : (0 : Int) ≤ (p : Int) + 4 := by omega
          have g4 : (p : Int) + 4 ≤ (c : Int) := by omega
          have g5 : ¬ c = p := by omega
          have g6 : p ≤ p + 4 := by omega
          have g7 : p + 4 - p = 4 := by omega
          go_wp2_with fail
          go_region_with (go_at_call 15; refine H32.mono ?_; rintro e w2 ⟨rfl, hb2⟩)
          have HR2 : Hid (Rows2 w w2 acc (.slice a1 acc.length c1) (.slice a2 acc.length c2)) := hrows.out.kept (((Kept.refl [] wr).drew).then (Below.kept hb2 []))
          clear hb2 H32 hrows g1 g2 g3 g4 g5 g6 g7
          by_cases hb0 : 0 < be4 zs p
          · by_cases hb1 : be4 zs p ≤ 65536
            · have q0 : (((be4 zs p : Nat) : Int) == 0) = false := by rw [beq_eq_false_iff_ne]; omega
              have q1 : decide ((65536 : Int) < ((be4 zs p : Nat) : Int)) = false := by simp; omega
              by_cases hb2 : p + 4 + be4 zs p ≤ n
              · have hstep : Hid (Stands zs 8 (acc ++ [(p + 4, be4 zs p)]) (p + 4 + be4 zs p)) := hsd.out.step (by omega) (by omega) hb0 hb1 (by omega)
                have hszw : w.heap.size ≤ w2.heap.size := HR2.out.hB.size
                go_wp2_with (first
                  | (at_builtin; refine wpList_append_lies _ rfl (.tmp 52) (.tmp 54) 37 rfl w.heap.size 3 i0 (.int .i64 0) 1 8 Ybaf.underlying37 hi hz0 hz1 hz2 rfl (by decide) (.slice a1 acc.length c1) acc.length (acc.map (fun p => .int .i64 (p.1 : Nat))) rfl (HR2.out.o1.alloc _) ⟨w2.heap.size, 0, none⟩ 1 1 [.int .i64 ((p : Int) + 4)] rfl rfl (cell_one_new _ _ _) (by intro u hu; simp at hu; subst hu; rfl) (by decide) (by unfold maxLen; omega) (by omega) (by simp; omega) (w2.heap.size + 1) (by simp) ?_; intro g1 c3 w3 hown3 hgrow3 hat3 hlt3; have HM := hidP (rows2_mid HR2.out hgrow3); have HO3 := hidP hown3; have HG3 := hidP hgrow3; have HA3 := hidP hat3; have hsz3 := hgrow3.size; clear hown3 hgrow3 hat3)
                  | (at_builtin; refine wpList_append_lies _ rfl (.tmp 56) (.tmp 58) 37 rfl w.heap.size 3 i0 (.int .i64 0) 1 8 Ybaf.underlying37 hi hz0 hz1 hz2 rfl (by decide) (.slice a2 acc.length c2) acc.length (acc.map (fun p => .int .i64 (p.2 : Nat))) rfl (HM.out.alloc _) ⟨w3.heap.size, 0, none⟩ 1 1 [.int .i64 ((be4 zs p : Nat) : Int)] rfl rfl (cell_one_new _ _ _) (by intro u hu; simp at hu; subst hu; rfl) (by decide) (by unfold maxLen; omega) (by omega) (by simp at hsz3; simp; omega) (w3.heap.size + 1) (by simp) ?_; intro g2 c4 w4 hown4 hgrow4 hat4 hlt4; have HO4 := hidP hown4; have HG4 := hidP hgrow4; have HA4 := hidP hat4; clear hown4 hgrow4 hat4))
                have HN : Hid (ParseAt w w4 n zs (p + 4 + be4 zs p) (acc ++ [(p + 4, be4 zs p)]) (.slice (some ⟨g1, 0, none⟩) (acc ++ [(p + 4, be4 zs p)]).length c3) (.slice (some ⟨g2, 0, none⟩) (acc ++ [(p + 4, be4 zs p)]).length c4)) := ⟨hb2, hstep.out, rows2_step HR2.out HO3.out HG3.out HA3.out hlt3 HO4.out HG4.out HA4.out⟩
                clear HO3 HG3 HA3 HO4 HG4 HA4 HM HR2 hstep hsd
                go_roundw
                case rel => exact ⟨p + 4 + be4 zs p, acc ++ [(p + 4, be4 zs p)], _, _, c3, c4, by simp, by simp, by go_num, HN⟩
                case measure => simp [intOf]; omega
              · have hend : Hid (ParseEnd w zs (.returned (.tuple #[.int .u64 0, .slice none 0 0, .slice none 0 0, .bool false])) w2) := ⟨HR2.out.hB, .inl ⟨rfl, parse_none (hsd.out.cut (by omega) (by omega))⟩⟩
                go_wp2_with fail
                exact bodyPost_ret (v := .tuple #[.int .u64 0, .slice none 0 0, .slice none 0 0, .bool false]) (by simp [results, Ybaf.results10, go_sem]) rfl hend.out
            · have q0 : (((be4 zs p : Nat) : Int) == 0) = false := by rw [beq_eq_false_iff_ne]; omega
              have q1 : decide ((65536 : Int) < ((be4 zs p : Nat) : Int)) = true := by simp; omega
              have hend : Hid (ParseEnd w zs (.returned (.tuple #[.int .u64 0, .slice none 0 0, .slice none 0 0, .bool false])) w2) := ⟨HR2.out.hB, .inl ⟨rfl, parse_none (hsd.out.bad (by omega) (.inr (by omega)))⟩⟩
              go_wp2_with fail
              exact bodyPost_ret (v := .tuple #[.int .u64 0, .slice none 0 0, .slice none 0 0, .bool false]) (by simp [results, Ybaf.results10, go_sem]) rfl hend.out
          · have q0 : (((be4 zs p : Nat) : Int) == 0) = true := by rw [beq_iff_eq]; omega
            have hend : Hid (ParseEnd w zs (.returned (.tuple #[.int .u64 0, .slice none 0 0, .slice none 0 0, .bool false])) w2) := ⟨HR2.out.hB, .inl ⟨rfl, parse_none (hsd.out.bad (by omega) (.inl (by omega)))⟩⟩
            go_wp2_with fail
            exact bodyPost_ret (v := .tuple #[.int .u64 0, .slice none 0 0, .slice none 0 0, .bool false]) (by simp [results, Ybaf.results10, go_sem]) rfl hend.out
    · have hpe : p = n := by omega
      subst hpe
      have hend : Hid (ParseEnd w zs (.returned (.tuple #[.int .u64 R, .slice a1 acc.length c1, .slice a2 acc.length c2, .bool true])) wr) :=
        ⟨hrows.out.hB, .inr ⟨R, acc, _, _, rfl, by rw [← HR.out]; exact parse_some H8.out (hsd.out.done (by omega)), hrows.out⟩⟩
      go_wp2_with fail
      exact bodyPost_ret (v := .tuple #[.int .u64 R, .slice a1 acc.length c1, .slice a2 acc.length c2, .bool true]) (by simp [results, Ybaf.results10, go_sem]) rfl hend.out
end Go.Proofs.YbulkcxpqFmt
