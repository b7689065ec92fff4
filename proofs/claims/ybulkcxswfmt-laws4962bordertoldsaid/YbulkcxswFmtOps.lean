import Derived.Test.YbulkcxswFmtPlain
import Derived.ArgAppend
import Derived.Lib.JoinLaws
import Derived.BigQuiet
namespace Go.Proofs.YbulkcxswFmt
open Go Go.RowKit Go.Deep

theorem hidE {p : Prop} (h : p) : Hid p := h
theorem info9 : (Ybaf.prog.info? 9).map (fun i => (i.zero, i.size, i.bytes)) = some (some (.string ⟨#[]⟩), 1, 16) := by kernel_rfl
theorem info3 : (Ybaf.prog.info? 3).map (fun i => (i.zero, i.size, i.bytes)) = some (some (.int .i64 0), 1, 8) := by kernel_rfl
theorem info4 : (Ybaf.prog.info? 4).map (fun i => (i.zero, i.size, i.bytes)) = some (some (.bool false), 1, 1) := by kernel_rfl

/-- 'append(s, v)' where there is room: one cell is written. -/
theorem append_lit_room {P : Program} (t ty e : TypeId) (i : TypeInfo) (ht : P.underlying t = some (.slice e)) (hi : P.info? e = some i) (hs : i.size = 1) (w : World) (b len cap : Nat) (t' : TypeId) (f : Nat → Value) (v : Value) (h1 : v.oneCell' = true)
    (hr : w.rowIs b t' cap f) (hlt : len < cap) :
    (Builtin.append_ #[t, t] ty #[.slice (some ⟨b, 0, none⟩) len cap, .slice (some ⟨w.heap.size, 0, none⟩) 1 1]).run P (w.alloc (.cells #[v] e)) = .ok (.slice (some ⟨b, 0, none⟩) (len + 1) cap) ((w.alloc (.cells #[v] e)).setCell ⟨b, len, none⟩ v) := by
  have hr' := hr.alloc (.cells #[v] e)
  have := run_append_room_cells (P := P) (w.alloc (.cells #[v] e)) t ty e i ht hi b 0 len cap ⟨w.heap.size, 0, none⟩ 1 1 [v] (by simp [hs]) (fun j u hj => by
      have hj0 : j = 0 := by
        have := (List.getElem?_eq_some_iff.1 hj).1
        simpa using this
      subst hj0
      have hu : v = u := by simpa using hj
      subst hu
      simp [Addr.add]) (by simpa using h1) (by omega)
    (fun j hj => by
      have hj0 : j = 0 := by simpa using hj
      subst hj0
      rw [hs, show 0 + len * 1 + 0 = len from by omega, hr'.cell hlt]
      rfl)
    (fun j hj => by
      have hj0 : j = 0 := by simpa using hj
      subst hj0
      rw [hs, show 0 + len * 1 + 0 = len from by omega]
      exact hr'.frozen len)
  rw [this, hs, show 0 + len * 1 = len from by omega]
  rfl
theorem len_map {P : Program} (w : World) (t k e ty : TypeId) (ht : P.underlying t = some (.map k e)) (b : Nat) (L : SM) (h : StrMap w b L) : (Builtin.len_ #[t] ty #[.map (some b)]).run P w = .ok (.int .i64 (L.length : Int)) w := by
  have h1 : w.heap[b]? = some (.map (ents L 0).toArray L.length) := h.1
  simp [Builtin.len_, run_underlying ht, MapKept.run_getObj_map h1, goInt, Result.andThen, ents_length]
end Go.Proofs.YbulkcxswFmt
