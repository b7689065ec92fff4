import Derived.Test.YbulkcxswFmtCyc
import Derived.Carry
import Derived.Test.YbulkcxswFmtApp
namespace Go.Proofs.YbulkcxswFmt
open Go Go.RowKit Go.Deep

theorem zero3 (w : World) : (zeroValue 3).run Ybaf.prog w = .ok (.int .i64 0) w := Ybaf.zeroValue3 w

set_option maxRecDepth 100000 in
set_option maxHeartbeats 800000 in
theorem cycle_any (bi cap bd md bp mp n : Nat) (p pl : List Nat) (deps : Nat → List Nat) (ws : Nat → Value) (w : World) (hset : Setting w bd md bp mp n p pl deps ws)
    (hids : w.rowIs bi 9 n (fun j => .string (nm j))) (hst : nextFree deps n pl = none) (hnd : pl.Nodup) (hlen : pl.length < n) :
    Calls Ybaf.prog 15 #[.slice (some ⟨bi, 0, none⟩) n cap, .map (some mp), .func (.func 12) #[] #[.pointer (some ⟨bd, 0, none⟩), .pointer (some ⟨bp, 0, none⟩)]] w fun e w' =>
      ∃ (b off cap' : Nat) (xs : List Nat), e = .returned (.slice (some ⟨b, off, none⟩) xs.length cap') ∧ xs.length ≤ 300 ∧ xs.length ≤ cap' ∧ b < w'.heap.size ∧ (∀ (j : Nat) (x : Nat), xs[j]? = some x → w'.cell? ⟨b, off + j, none⟩ = some (.string (nm x))) ∧ Below w.heap.size w w' := by
  have HSET := hidE hset
  have HST := hidE hst
  have HND := hidE hnd
  have HIDS := hidE hids
  have hn := hset.hn
  clear hset hst hnd hids
  go_enter Ybaf.func15, Ybaf.ntmps15
  go_wp2_with fail
  go_loop [7, 16] (fun s7 s16 => ∃ k : Nat, k ≤ n ∧ s7 = .string ⟨#[]⟩ ∧ s16 = .int .i64 k ∧ Hid (∀ j, j < k → j ∈ pl)) (fun _ s16 => n - (intOf s16).toNat)
  case atStart => exact ⟨0, by omega, rfl, rfl, fun j hj => absurd hj (by omega)⟩
  case round =>
    obtain ⟨k, hk, rfl, rfl, hbe⟩ := hrel
    by_cases hkn : k < n
    · have hc := HIDS.out.cell hkn
      have hlk := run_lookup_str (P := Ybaf.prog) w 52 9 4 Ybaf.underlying52 Ybaf.underlying9 mp _ HSET.out.hmp (nm k) _ (zero4 w)
      rw [getM_named _ (by omega) pl (fun x hx => by have := HSET.out.low x hx; omega)] at hlk
      by_cases hkp : k ∈ pl
      · rw [if_pos hkp, Option.getD_some] at hlk
        go_wp2_with fail
        go_round
        case rel => exact ⟨k + 1, by omega, rfl, by go_num, fun j hj => by
          rcases Nat.lt_or_ge j k with h | h
          · exact hbe.out j h
          · have : j = k := by omega
            rw [this]; exact hkp⟩
        case measure => simp [intOf]; omega
      · rw [if_neg hkp, Option.getD_none] at hlk
        have hmm := run_makeMap (P := Ybaf.prog) 85
        have q1 : Hid (StrMap (w.alloc (.map #[] 0)) w.heap.size (atMap [])) := strMap_made w
        have q2 : Hid ((w.alloc (.map #[] 0)).ownsRow (w.heap.size + 1) 9 1 (.slice none 0 0) 0 ([] : List Value)) := World.ownsRow_nil _ _ _ _
        have q3 : Hid (Below w.heap.size w (w.alloc (.map #[] 0))) := (Below.refl _ w).alloc (Nat.le_refl _) _
        go_wp2_with fail
        clear hmm hlk hc
        have hsz1 : (w.alloc (.map #[] 0)).heap.size = w.heap.size + 1 := Array.size_push _
        have q4 : Hid (w.heap.size + 1 ≤ (w.alloc (.map #[] 0)).heap.size) := hidE (by omega)
        clear hsz1
        generalize (w.alloc (.map #[] 0)) = w1 at *
        go_loopw [7, 11] (fun s7 s11 wr => ∃ (path : List Nat) (c c1 : Nat) (a1 : Option Addr), c < n ∧ path.length ≤ n ∧ s7 = .string (nm c) ∧ s11 = .slice a1 path.length c1 ∧ Hid (c ∉ pl) ∧ Hid (path.Nodup) ∧ Hid (∀ x ∈ path, x < n) ∧ Hid (StrMap wr w.heap.size (atMap path)) ∧ Hid (wr.ownsRow (w.heap.size + 1) 9 1 (.slice a1 path.length c1) path.length (path.map fun x => .string (nm x))) ∧ Hid (Below w.heap.size w wr) ∧ Hid (w.heap.size + 1 ≤ wr.heap.size)) (fun _ s11 _ => n - slen s11)
        case atStart => exact ⟨[], k, 0, none, hkn, by simp, rfl, rfl, hkp, List.nodup_nil, hidE (by simp), q1, q2, q3, q4⟩
        case round =>
          clear q1 q2 q3 q4
          obtain ⟨path, c, c1, a1, hcn, hpn, rfl, rfl, hcp, hpnd, hplow, q1, q2, q3, q4⟩ := hrel
          have hlow6 : Hid (∀ x ∈ path, x < 676) := fun x hx => by have := hplow.out x hx; omega
          have hlk := run_lookup_str_ok (P := Ybaf.prog) wr 85 9 3 Ybaf.underlying85 Ybaf.underlying9 w.heap.size _ q1.out (nm c) _ (zero3 wr)
          unfold atMap at hlk
          rw [getM_named _ (by omega) path hlow6.out] at hlk
          by_cases hin : c ∈ path
          · rw [if_pos hin, Option.getD_some, Option.isSome_some] at hlk
            have hil := List.idxOf_lt_length_of_mem hin
            obtain ⟨g, cap2, hv, hbg, hglt⟩ := q2.out.form (by omega)
            cases hv
            obtain ⟨g3, cap3, cur3, hv3, _, _, hnc3, _⟩ := q2.out.2.resolve_left (fun h => by cases h.1)
            cases hv3
            obtain ⟨b, off, cap', w', hap, hcap, hblt, hcs, hgr⟩ := append_cut (P := Ybaf.prog) 34 9 (.string ⟨#[]⟩) 16 Ybaf.underlying34 info9 rfl wr (w.heap.size + 1) g path.length c1 (path.idxOf c) _ q2.out (.string (nm c)) rfl (by omega) (by omega) (by omega)
            have HC : Hid (∀ (j : Nat) (x : Nat), (path.drop (path.idxOf c) ++ [c])[j]? = some x → w'.cell? ⟨b, off + j, none⟩ = some (.string (nm x))) := fun j x hj => hcs j (.string (nm x)) (by
              rw [← List.map_drop, show [Value.string (nm c)] = [c].map (fun x => Value.string (nm x)) from rfl, ← List.map_append, List.getElem?_map, hj]
              rfl)
            have HB : Hid (Below w.heap.size w w') := by
              have h1 := q3.out.alloc q3.out.size (.cells #[.string (nm c)] 9)
              exact ⟨hgr.os.trans h1.os, hgr.tape.trans h1.tape, hgr.output.trans h1.output, Nat.le_trans h1.size hgr.size, fun q hq => (hgr.block q (Nat.lt_of_lt_of_le hq h1.size) (by simp; omega)).trans (h1.block q hq)⟩
            have HX : Hid (path.length - path.idxOf c + 1 = (path.drop (path.idxOf c) ++ [c]).length) := by simp [Hid]
            clear hcs hgr q2 hin
            have HAP := hidE hap
            clear hap
            generalize path.idxOf c = i at *
            go_wp2_with (first | (at_builtin; refine wpList_append_run _ rfl (.tmp 36) (.tmp 38) 34 rfl _ _ _ _ rfl rfl HAP.out ?_))
            go_ret
            refine ⟨b, off, cap', path.drop i ++ [c], ?_, ?_, ?_, hblt, HC.out, HB.out⟩
            · rw [← HX.out]; rfl
            · rw [← HX.out]; omega
            · rw [← HX.out]; exact hcap
          · rw [if_neg hin, Option.getD_none, Option.isSome_none] at hlk
            have hlt2 : path.length < n := by
              have := nodup_len n (path ++ [c]) (by
                rw [List.nodup_append]
                exact ⟨hpnd.out, by simp, fun a ha b hb e => hin (by
                  have : b = c := by simpa using hb
                  rw [← this, ← e]; exact ha)⟩) (fun x hx => by
                rcases List.mem_append.1 hx with h | h
                · exact hplow.out x h
                · have : x = c := by simpa using h
                  omega)
              simp at this
              omega
            have hmu := run_mapUpdate_str (P := Ybaf.prog) wr 85 9 3 Ybaf.underlying85 Ybaf.underlying9 w.heap.size _ q1.out (nm c) (.int .i64 (path.length : Int))
            have hsm : StrMap (World.putObj wr w.heap.size (mapObj (atMap (path ++ [c])))) w.heap.size (atMap (path ++ [c])) := by
              have := q1.out.put (nm c) (.int .i64 (path.length : Int))
              rwa [atMap_step hin hlow6.out (by omega)] at this
            rw [atMap_step hin hlow6.out (by omega)] at hmu
            have q5 : Hid (Kept [w.heap.size] wr (World.putObj wr w.heap.size (mapObj (atMap (path ++ [c]))))) := (Kept.refl _ wr).putObj (fun _ => by simp) _
            generalize World.putObj wr w.heap.size (mapObj (atMap (path ++ [c]))) = wm at *
            obtain ⟨g, cap', w', hap, hown, hgr, hbg, hglt, hwh⟩ := append_own (P := Ybaf.prog) 34 9 (.string ⟨#[]⟩) 1 16 Ybaf.underlying34 info9 rfl (by omega) wm (w.heap.size + 1) _ path.length _ (q5.out.owns q2.out (fun k hk => by have := (q2.out.lt k hk).1; simp; omega)) [.string (nm c)] rfl (by simp; rfl) (by omega) (by omega) (by have := q5.out.size; have := q4.out; omega)
            have hB : Below w.heap.size w w' := by
              have h1 : Below w.heap.size w (wm.alloc (.cells [Value.string (nm c)].toArray 9)) := by
                have h0 : Below w.heap.size w wm := q3.out.trans (q5.out.below q3.out.size (by simp))
                exact h0.alloc h0.size _
              exact ⟨hgr.os.trans h1.os, hgr.tape.trans h1.tape, hgr.output.trans h1.output, Nat.le_trans h1.size hgr.size, fun q hq => (hgr.block q (Nat.lt_of_lt_of_le hq h1.size) (fun e => by have := (q2.out.lt q e.symm).1; omega)).trans (h1.block q hq)⟩
            have hsm' : StrMap w' w.heap.size (atMap (path ++ [c])) := (hsm.alloc (.cells [Value.string (nm c)].toArray 9)).of_block (hgr.block _ (hsm.alloc _).lt (fun e => by have := (q2.out.lt _ e.symm).1; omega))
            have q6 := hidE hB
            have q7 := hidE hsm'
            have q8 := hidE hown
            have q9 : Hid (w.heap.size + 1 ≤ w'.heap.size) := hidE (by omega)
            clear hgr hown hwh hsm hsm' q2 hB
            obtain ⟨d, hmin, hdn, hdp⟩ := stuck_min HST.out hcn hcp.out
            have hcl := (HSET.out.below q6.out).clos hcn
            rw [hmin] at hcl
            have HDP := hidE hdp
            have HAP := hidE hap
            clear hmin hdp hap
            go_wp2_with (first | (at_builtin; refine wpList_append_run _ rfl (.tmp 44) (.tmp 46) 34 rfl _ _ _ _ rfl rfl HAP.out ?_))
            refine hcl.mono ?_
            rintro e w2 ⟨rfl, rfl⟩
            clear hcl
            go_wp2_with fail
            go_roundw
            case rel =>
              refine ⟨path ++ [c], d, cap', some ⟨g, 0, none⟩, hdn, by simp; omega, rfl, by simp, HDP.out, ?_, ?_, q7.out, ?_, q6.out, q9.out⟩
              · refine hidE ?_
                rw [List.nodup_append]
                exact ⟨hpnd.out, by simp, fun a ha b hb e => hin (by
                  have : b = c := by simpa using hb
                  rw [← this, ← e]; exact ha)⟩
              · exact fun x hx => by
                  rcases List.mem_append.1 hx with h | h
                  · exact hplow.out x h
                  · have : x = c := by simpa using h
                    omega
              · refine hidE ?_
                have := q8.out
                simpa using this
            case measure => simp [slen]; omega
    · exfalso
      exact some_left HND.out HSET.out.low hlen (fun j hj => hbe.out j (by omega))
end Go.Proofs.YbulkcxswFmt
