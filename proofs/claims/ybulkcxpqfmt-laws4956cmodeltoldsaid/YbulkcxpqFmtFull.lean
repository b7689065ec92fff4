import Derived.Test.YbulkcxpqFmtRd
import Derived.Deep.RegionWith
namespace Go.Proofs.YbulkcxpqFmt
open Go.RowKit

theorem nil_ahead (a : Addr) (w : World) : (nilAhead 193 43 (.pointer (some a)) "Read").run Ybaf.prog w = .ok (some false) w := by kernel_rfl
theorem method_read (a : Addr) (w : World) : (method 193 43 (.pointer (some a)) "Read").run Ybaf.prog w = .ok (42, .pointer (some a)) w := by kernel_rfl

set_option maxHeartbeats 400000 in
theorem atLeast_any {R g b off n c i m : Nat} {t : TypeId} {cur cs : List Value} {w : World} (hR : Rdr w R (some ⟨b, off, none⟩) n c i) (hg : w.heap[g]? = some (.cells cur.toArray t (0, 0)))
    (hcur : cur.length = m) (hm : 0 < m) (hcs : cs.length = m) (hsrc : ∀ j v, cs[j]? = some v → w.cell? ⟨b, off + i + j, none⟩ = some v) (h1c : ∀ v ∈ cs, v.oneCell' = true) (hRg : R ≠ g) (hbR : b ≠ R) (him : i + m ≤ n) (hnc : n ≤ c) (hc : c ≤ maxLen) :
    Calls Ybaf.prog 24 #[.iface 43 (.pointer (some ⟨R, 0, none⟩)), .slice (some ⟨g, 0, none⟩) m m, .int .i64 m] w fun e w' => e = .returned (.tuple #[.int .i64 m, .nilIface]) ∧
      Rdr w' R (some ⟨b, off, none⟩) n c (i + m) ∧ w'.heap[g]? = some (.cells cs.toArray t (0, 0)) ∧ Kept [R, g] w w' := by
  have hrd := fun q => (read_any (w := w.drewN q) hR hg hcur hm hcs hsrc h1c hRg hbR him hnc hc)
  have hm' : m ≤ 9223372036854775807 := by unfold maxLen at hc; omega
  have HR : Hid (∀ q : Nat, Calls Ybaf.prog 42 _ (w.drewN q) _) := hrd
  clear hrd hsrc hR hg
  have n1 := nil_ahead ⟨R, 0, none⟩
  have n2 := method_read ⟨R, 0, none⟩
  go_enter Ybaf.func24, Ybaf.ntmps24
  go_wp2
  refine wp_loop_rounds 2 ?_
  rw [rounds_succ]
  go_wp2
  go_region_with (go_at_call 42; refine (HR.out 1).mono ?_; rintro e w1 ⟨rfl, hR1, hg1, hk1⟩)
  have HR1 : Hid (Rdr w1 R (some ⟨b, off, none⟩) n c (i + m)) := hR1
  have HG1 : Hid (w1.heap[g]? = some (.cells cs.toArray t (0, 0))) := hg1
  have HK1 : Hid (Kept [R, g] (w.drewN 1) w1) := hk1
  clear hR1 hg1 hk1
  go_wp2
  rw [rounds_succ]
  go_wp2
  go_ret2
  exact ⟨rfl, HR1.out, HG1.out, ((Kept.refl _ w).drewN 1).then HK1.out⟩

set_option maxHeartbeats 400000 in
theorem full_any {R g b off n c i m : Nat} {t : TypeId} {cur cs : List Value} {w : World} (hR : Rdr w R (some ⟨b, off, none⟩) n c i) (hg : w.heap[g]? = some (.cells cur.toArray t (0, 0)))
    (hcur : cur.length = m) (hm : 0 < m) (hcs : cs.length = m) (hsrc : ∀ j v, cs[j]? = some v → w.cell? ⟨b, off + i + j, none⟩ = some v) (h1c : ∀ v ∈ cs, v.oneCell' = true) (hRg : R ≠ g) (hbR : b ≠ R) (him : i + m ≤ n) (hnc : n ≤ c) (hc : c ≤ maxLen) :
    Calls Ybaf.prog 17 #[.iface 43 (.pointer (some ⟨R, 0, none⟩)), .slice (some ⟨g, 0, none⟩) m m] w fun e w' => e = .returned (.tuple #[.int .i64 m, .nilIface]) ∧
      Rdr w' R (some ⟨b, off, none⟩) n c (i + m) ∧ w'.heap[g]? = some (.cells cs.toArray t (0, 0)) ∧ Kept [R, g] w w' := by
  have hrd := atLeast_any hR hg hcur hm hcs hsrc h1c hRg hbR him hnc hc
  clear hsrc hR hg
  go_enter Ybaf.func17, Ybaf.ntmps17
  go_wp2_with (go_at_call 24; refine hrd.mono ?_; rintro e w1 ⟨rfl, hR1, hg1, hk1⟩)
  go_ret2
  exact ⟨rfl, by assumption, by assumption, by assumption⟩
end Go.Proofs.YbulkcxpqFmt
