import Derived.Test.YbulkcxswFmtSet
namespace Go.Proofs.YbulkcxswFmt
open Go Go.RowKit Go.Deep

theorem zero34 (w : World) : (zeroValue 34).run Ybaf.prog w = .ok (.slice none 0 0) w := Ybaf.zeroValue34 w
theorem zero4 (w : World) : (zeroValue 4).run Ybaf.prog w = .ok (.bool false) w := Ybaf.zeroValue4 w

set_option maxRecDepth 100000 in
set_option maxHeartbeats 800000 in
theorem clos_any (bd md bp mp n i : Nat) (p pl : List Nat) (deps : Nat → List Nat) (ws : Nat → Value) (w : World)
    (hcd : w.cell? ⟨bd, 0, none⟩ = some (.map (some md))) (hcp : w.cell? ⟨bp, 0, none⟩ = some (.map (some mp)))
    (hmd : StrMap w md (named p ws)) (hmp : StrMap w mp (named pl fun _ => .bool true)) (hp : p.Perm (List.range n)) (hpl : ∀ x ∈ pl, x < n) (hn : n ≤ 256)
    (hi : i < n) (hw : IsNames w (ws i) (deps i)) (hd : ∀ d ∈ deps i, d < 676) (hdl : (deps i).length ≤ 256) :
    Calls Ybaf.prog 12 #[.string (nm i), .pointer (some ⟨bd, 0, none⟩), .pointer (some ⟨bp, 0, none⟩)] w fun e w' => e = .returned (.string (nmO (minW n pl (deps i)))) ∧ w' = w := by
  have hlow : ∀ x ∈ p, x < 676 := fun x hx => by have := List.mem_range.1 (hp.mem_iff.1 hx); omega
  have hmem : ∀ d, d ∈ p ↔ d < n := fun d => by rw [hp.mem_iff, List.mem_range]
  have hlk1 := run_lookup_str (P := Ybaf.prog) w 49 9 34 Ybaf.underlying49 Ybaf.underlying9 md _ hmd (nm i) _ (zero34 w)
  rw [getM_named ws (by omega) p hlow, if_pos ((hmem i).2 hi), Option.getD_some] at hlk1
  obtain ⟨ao, cap, hwi, hcells⟩ := hw
  rw [hwi] at hlk1
  have HD : Hid (∀ d ∈ deps i, d < 676) := hd
  have HMD : Hid (StrMap w md (named p ws)) := hmd
  have HMP : Hid (StrMap w mp (named pl fun _ => .bool true)) := hmp
  have HLOW : Hid (∀ x ∈ p, x < 676) := hlow
  have HPL : Hid (∀ x ∈ pl, x < n) := hpl
  have HMEM : Hid (∀ d, d ∈ p ↔ d < n) := hmem
  have HCL := hidE hcells
  clear hcells hd hmd hmp hlow hpl hmem hp hwi
  go_enter Ybaf.func12, Ybaf.ntmps12
  go_wp2_with fail
  go_loop [5, 14] (fun s5 s14 => ∃ k : Nat, k ≤ (deps i).length ∧ s5 = .string (nmO (((deps i).take k).foldl (better n pl) none)) ∧ s14 = .int .i64 k) (fun _ s14 => (deps i).length - (intOf s14).toNat)
  case atStart => exact ⟨0, by omega, rfl, rfl⟩
  case round =>
    obtain ⟨k, hk, rfl, rfl⟩ := hrel
    by_cases hkl : k < (deps i).length
    · obtain ⟨b, off, rfl, hb, hcs⟩ := HCL.out (by intro h; simp [h] at hkl)
      have hc := hcs k hkl
      have hdk : (deps i).getD k 0 ∈ deps i := by
        rw [List.getD_eq_getElem?_getD, List.getElem?_eq_getElem hkl]; exact List.getElem_mem hkl
      have hd6 := HD.out _ hdk
      have htk : (deps i).take (k + 1) = (deps i).take k ++ [(deps i).getD k 0] := by
        rw [List.take_add_one, List.getElem?_eq_getElem hkl, List.getD_eq_getElem?_getD, List.getElem?_eq_getElem hkl]; rfl
      have hstep : ((deps i).take (k + 1)).foldl (better n pl) none = better n pl (((deps i).take k).foldl (better n pl) none) ((deps i).getD k 0) := by
        rw [htk, List.foldl_append]; rfl
      have hgood := foldl_good (n := n) (pl := pl) ((deps i).take k) none (by simp)
      generalize ((deps i).take k).foldl (better n pl) none = o at *
      generalize (deps i).getD k 0 = d at *
      have hlk2 := run_lookup_str_ok (P := Ybaf.prog) w 49 9 34 Ybaf.underlying49 Ybaf.underlying9 md _ HMD.out (nm d) _ (zero34 w)
      rw [getM_named ws hd6 p HLOW.out] at hlk2
      have hlk3 := run_lookup_str (P := Ybaf.prog) w 52 9 4 Ybaf.underlying52 Ybaf.underlying9 mp _ HMP.out (nm d) _ (zero4 w)
      rw [getM_named _ hd6 pl (fun x hx => by have := HPL.out x hx; omega)] at hlk3
      have HST := hidE hstep
      clear hstep htk hcs hdk
      by_cases h1 : d < n
      · rw [if_pos ((HMEM.out d).2 h1), Option.getD_some, Option.isSome_some] at hlk2
        by_cases h2 : d ∈ pl
        · rw [if_pos h2, Option.getD_some] at hlk3
          have hbt : better n pl o d = o := if_neg (fun h => h.2.1 h2)
          go_wp2_with fail
          go_round
          case rel => exact ⟨k + 1, by omega, by rw [HST.out, hbt], by go_num⟩
          case measure => simp [intOf]; omega
        · rw [if_neg h2, Option.getD_none] at hlk3
          cases o with
          | none =>
            have hbt : better n pl none d = some d := if_pos ⟨h1, h2, by simp⟩
            have he : (nmO none).toList = [] := empty_toList
            go_wp2_with fail
            go_round
            case rel => exact ⟨k + 1, by omega, by rw [HST.out, hbt]; rfl, by go_num⟩
            case measure => simp [intOf]; omega
          | some x =>
            have hx6 : x < 676 := by have := (hgood x rfl).1; omega
            have hl := nm_less hd6 hx6
            have he : (nmO (some x)).toList = nmL x := nm_toList x
            have he1 : (nmL x).isEmpty = false := rfl
            have he2 : ¬ nmL x = [] := by simp [nmL]
            rw [nm_toList x] at hl
            by_cases h3 : d < x
            · have hbt : better n pl (some x) d = some d := if_pos ⟨h1, h2, fun y hy => by injection hy with hy; omega⟩
              rw [decide_eq_true h3] at hl
              go_wp2_with fail
              go_round
              case rel => exact ⟨k + 1, by omega, by rw [HST.out, hbt]; rfl, by go_num⟩
              case measure => simp [intOf]; omega
            · have hbt : better n pl (some x) d = some x := if_neg (fun h => h3 (h.2.2 x rfl))
              rw [decide_eq_false h3] at hl
              go_wp2_with fail
              go_round
              case rel => exact ⟨k + 1, by omega, by rw [HST.out, hbt], by go_num⟩
              case measure => simp [intOf]; omega
      · rw [if_neg (fun h => h1 ((HMEM.out d).1 h)), Option.getD_none, Option.isSome_none] at hlk2
        have hbt : better n pl o d = o := if_neg (fun h => h1 h.1)
        go_wp2_with fail
        go_round
        case rel => exact ⟨k + 1, by omega, by rw [HST.out, hbt], by go_num⟩
        case measure => simp [intOf]; omega
    · have hke : k = (deps i).length := by omega
      subst hke
      go_wp2_with fail
      go_ret
      exact ⟨rfl, rfl⟩
end Go.Proofs.YbulkcxswFmt
