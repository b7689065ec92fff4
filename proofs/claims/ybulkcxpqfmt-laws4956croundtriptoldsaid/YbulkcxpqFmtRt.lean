import Derived.Test.YbulkcxpqFmtApp
namespace Go.Proofs.YbulkcxpqFmt
open Go.RowKit

def tsk (T : Nat → List Int) (k : Nat) : List (List Int) := (List.range k).map T
def totl (T : Nat → List Int) : Nat → Nat
  | 0 => 0
  | k + 1 => totl T k + (T k).length
theorem tsk_succ (T : Nat → List Int) (k : Nat) : tsk T (k + 1) = tsk T k ++ [T k] := by simp [tsk, List.range_succ]
theorem tsk_length (T : Nat → List Int) (k : Nat) : (tsk T k).length = k := by simp [tsk]
theorem enc_succ (round : Nat) (T : Nat → List Int) (k : Nat) : enc round (tsk T (k + 1)) = enc round (tsk T k) ++ (bz 4 (T k).length ++ T k) := by
  rw [tsk_succ]; simp [enc, encs, enc1]
theorem enc_length (round : Nat) (T : Nat → List Int) : ∀ k, (enc round (tsk T k)).length = 8 + 4 * k + totl T k
  | 0 => by simp [enc, encs, tsk, totl, bz_length]
  | k + 1 => by rw [enc_succ, List.length_append, enc_length round T k, List.length_append, bz_length, totl]; omega
theorem enc_bytes (round : Nat) (T : Nat → List Int) (h : ∀ r, Bytes (T r)) (k : Nat) : Bytes (enc round (tsk T k)) := by
  intro z hz
  unfold enc encs tsk at hz
  rcases List.mem_append.1 hz with hz | hz
  · exact bz_bytes _ _ z hz
  · obtain ⟨t, ht, hz⟩ := List.mem_flatMap.1 hz
    obtain ⟨r, _, rfl⟩ := List.mem_map.1 ht
    rcases List.mem_append.1 hz with hz | hz
    · exact bz_bytes _ _ z hz
    · exact h r z hz
theorem parse_enc (round : Nat) (hr : round < 18446744073709551616) (T : Nat → List Int) (hT : ∀ r, 1 ≤ (T r).length ∧ (T r).length ≤ 65536) (k : Nat) :
    parse (enc round (tsk T k)) = if k ≤ 1000 then some ((round : Int), places 8 (tsk T k)) else none := by
  have h8 : ¬ (enc round (tsk T k)).length < 8 := by rw [enc_length]; omega
  have hs : segs 1000 (enc round (tsk T k)) 8 = if k ≤ 1000 then some (places 8 (tsk T k)) else none := by
    have := segs_enc (tsk T k) 1000 (bz 8 round) (fun t ht => by obtain ⟨r, _, rfl⟩ := List.mem_map.1 ht; exact hT r)
    rw [bz_length, tsk_length] at this
    exact this
  have hb : Lib.beZ ((enc round (tsk T k)).take 8) = round := by
    unfold enc
    rw [List.take_left' (bz_length 8 _), beZ_bz 8 round (by simpa using hr)]
  unfold parse
  rw [if_neg h8, hs, hb]
  split <;> rfl

/-- A transaction that is wanted: it lies outside the two rows that grow. -/
def Wanted (wr : World) (gp gw : Nat) (t : List Int) (v : Value) : Prop := ∃ bb oo c, v = .slice (some ⟨bb, oo, none⟩) t.length c ∧ bb < wr.heap.size ∧ bb ≠ gp ∧ bb ≠ gw ∧ Src wr bb oo t

structure RT (w wr : World) (round : Nat) (T : Nat → List Int) (len k gp cp gw : Nat) (ws : List Value) : Prop where
  hp : wr.ownsRow w.heap.size 5 1 (.slice (some ⟨gp, 0, none⟩) (enc round (tsk T k)).length cp) (enc round (tsk T k)).length (u8s (enc round (tsk T k)))
  hw : wr.ownsRow w.heap.size 24 1 (.slice (some ⟨gw, 0, none⟩) k len) k ws
  hne : gp ≠ gw
  hws : ∀ r, r < k → ∃ v, ws[r]? = some v ∧ Wanted wr gp gw (T r) v
  hB : Below w.heap.size w wr

theorem Wanted.kept {wr w' : World} {S : List Nat} {gp gw gp' : Nat} {t : List Int} {v : Value} (h : Wanted wr gp gw t v) (hK : Kept S wr w') (hS : ∀ x ∈ S, x = gp ∨ x = gw ∨ wr.heap.size ≤ x) (hg : gp' = gp ∨ wr.heap.size ≤ gp') : Wanted w' gp' gw t v := by
  obtain ⟨bb, oo, c, rfl, hlt, h1, h2, hs⟩ := h
  refine ⟨bb, oo, c, rfl, Nat.lt_of_lt_of_le hlt hK.size, by omega, h2, hs.kept hK hlt (fun e => ?_)⟩
  rcases hS bb e with h | h | h <;> omega

theorem RT.kept0 {w wr w' : World} {round : Nat} {T : Nat → List Int} {len k gp cp gw : Nat} {ws : List Value} (h : RT w wr round T len k gp cp gw ws) (hK : Kept [] wr w') : RT w w' round T len k gp cp gw ws :=
  ⟨hK.owns h.hp (by simp), hK.owns h.hw (by simp), h.hne, fun r hr => by obtain ⟨v, h1, h2⟩ := h.hws r hr; exact ⟨v, h1, h2.kept hK (by simp) (.inl rfl)⟩, h.hB.trans (hK.below h.hB.size (by simp))⟩

theorem RT.lt {w wr : World} {round : Nat} {T : Nat → List Int} {len k gp cp gw : Nat} {ws : List Value} (h : RT w wr round T len k gp cp gw ws) : gp < wr.heap.size ∧ gw < wr.heap.size ∧ w.heap.size ≤ gp ∧ w.heap.size ≤ gw :=
  ⟨(h.hp.lt gp rfl).2, (h.hw.lt gw rfl).2, (h.hp.lt gp rfl).1, (h.hw.lt gw rfl).1⟩

theorem rt_step {w wx w1 w2 w3 : World} {round : Nat} {T : Nat → List Int} {len k gp cp gw g1 g2 c2 : Nat} {ws : List Value} {tv : Value} {o : Obj} (h : RT w wx round T len k gp cp gw ws)
    (ht : Wanted wx gp gw (T k) tv) (k1 : Kept [gp] wx w1) (a1 : g1 = gp ∨ wx.heap.size ≤ g1)
    (o2 : w2.ownsRow w.heap.size 5 1 (.slice (some ⟨g2, 0, none⟩) ((enc round (tsk T k)).length + 4 + (T k).length) c2) ((enc round (tsk T k)).length + 4 + (T k).length) (u8s (enc round (tsk T k)) ++ u8s (bz 4 (T k).length) ++ u8s (T k)))
    (h2 : w1.grownBy w2 (some g1)) (a2 : g2 = g1 ∨ g2 = w1.heap.size)
    (o3 : w3.ownsRow w.heap.size 24 1 (.slice (some ⟨gw, 0, none⟩) (k + 1) len) (k + 1) (ws ++ [tv])) (h3 : (w2.alloc o).grownBy w3 (some gw)) :
    RT w w3 round T len (k + 1) g2 c2 gw (ws ++ [tv]) := by
  obtain ⟨l1, l2, l3, l4⟩ := h.lt
  have s1 := k1.size
  have s2 := h2.size
  have K2 : Kept [gp, g1] wx w2 := (k1.mono (by simp)).grown h2 (fun x hx _ => by simp at hx; simp [hx])
  have K3 : Kept [gp, g1, gw] wx w3 := ((K2.mono (by intro x hx _; simp at hx ⊢; omega)).alloc o).grown h3 (fun x hx _ => by simp at hx; simp [hx])
  have hg2 : g2 = gp ∨ wx.heap.size ≤ g2 := by omega
  have hS : ∀ x ∈ [gp, g1, gw], x = gp ∨ x = gw ∨ wx.heap.size ≤ x := by intro x hx; simp at hx; omega
  have hne : g2 ≠ gw := by have := h.hne; omega
  have e1 : (enc round (tsk T k)).length + 4 + (T k).length = (enc round (tsk T (k + 1))).length := by rw [enc_succ]; simp [bz_length]; omega
  have e2 : u8s (enc round (tsk T k)) ++ u8s (bz 4 (T k).length) ++ u8s (T k) = u8s (enc round (tsk T (k + 1))) := by rw [enc_succ, u8s_append, u8s_append, List.append_assoc]
  rw [e1, e2] at o2
  refine ⟨?_, o3, hne, fun r hr => ?_, ?_⟩
  · exact (o2.alloc o).kept h3 (.inr (by simpa [Value.ownBlock] using hne))
  · have hl : ws.length = k := by have := h.hw.1; omega
    rcases Nat.lt_or_ge r k with hlt | hge
    · obtain ⟨v, v1, v2⟩ := h.hws r hlt
      exact ⟨v, by rw [List.getElem?_append_left (by omega)]; exact v1, v2.kept K3 hS hg2⟩
    · have hrk : r = k := by omega
      subst hrk
      exact ⟨tv, by rw [← hl]; simp, ht.kept K3 hS hg2⟩
  · exact h.hB.trans (K3.below h.hB.size (by intro x hx; simp at hx; omega))

theorem rt_start {w w1 w2 : World} {round : Nat} (T : Nat → List Int) {len g c : Nat} (h1 : w1.ownsRow w.heap.size 5 1 (.slice (some ⟨g, 0, none⟩) 8 c) 8 (u8s (bz 8 round))) (hB : Below w.heap.size w w1)
    (h2 : w2.ownsRow w.heap.size 24 1 (.slice (some ⟨w1.heap.size, 0, none⟩) 0 len) 0 []) (hg : w1.grownBy w2 none) : RT w w2 round T len 0 g c w1.heap.size [] := by
  have e : enc round (tsk T 0) = bz 8 round := by simp [enc, tsk, encs]
  have hl := (h1.lt g rfl).2
  refine ⟨?_, h2, by omega, fun r hr => by omega, hB.grown hg hB.size (by simp)⟩
  rw [e, bz_length]
  exact h1.kept hg (.inr (by simp [Value.ownBlock]))

theorem app64 (round : Nat) (hr : round < 18446744073709551616) (w : World) :
    Calls Ybaf.prog 5 #[.agg #[], .slice none 0 0, .int .u64 round] w fun e w' => ∃ g c, e = .returned (.slice (some ⟨g, 0, none⟩) 8 c) ∧ w'.ownsRow w.heap.size 5 1 (.slice (some ⟨g, 0, none⟩) 8 c) 8 (u8s (bz 8 round)) ∧ Below w.heap.size w w' := by
  refine (Ybaf.binary_BE_AppendUint64 w.heap.size 0 round hr (.slice none 0 0) [] w (World.ownsRow_nil _ _ _ _) (Nat.le_refl _) (by omega)).mono ?_
  rintro e w' ⟨v', rfl, hown, hB⟩
  rw [Nat.zero_add, List.nil_append, ← u8s_bz] at hown
  obtain ⟨g, c, rfl, _, _⟩ := hown.form (by omega)
  exact ⟨g, c, rfl, hown, hB⟩
end Go.Proofs.YbulkcxpqFmt
