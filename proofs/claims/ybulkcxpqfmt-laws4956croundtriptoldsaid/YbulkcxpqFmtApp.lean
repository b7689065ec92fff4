import Derived.Test.YbulkcxpqFmtEnc
import Derived.Test.YbulkcxpqFmtPay
import Derived.Deep.AppendLies
namespace Go.Proofs.YbulkcxpqFmt
open Go.RowKit

theorem info5 : (Ybaf.prog.info? 5).map (fun i => (i.zero, i.size, i.bytes)) = some (some (.int .u8 0), 1, 1) := by kernel_rfl

def u8s (l : List Int) : List Value := l.map (Value.int .u8)
theorem u8s_append (a b : List Int) : u8s (a ++ b) = u8s a ++ u8s b := by simp [u8s]
theorem u8s_one {l : List Int} : ∀ v ∈ u8s l, v.oneCell' = true := by
  intro v hv
  obtain ⟨z, _, rfl⟩ := List.mem_map.1 hv
  rfl
theorem u8s_bz (k v : Nat) : u8s (bz k v) = Lib.byteCells (Lib.beBytes k v) := by simp [u8s, bz, Lib.byteCells]

set_option maxHeartbeats 1000000 in
theorem app32 (base n v : Nat) (hv : v < 4294967296) (g cap : Nat) (xs : List Value) (w : World) (hown : w.ownsRow base 5 1 (.slice (some ⟨g, 0, none⟩) n cap) n xs) (hBw : base ≤ w.heap.size) (hlim : n + 4 ≤ 140737488355328) :
    Calls Ybaf.prog 6 #[.agg #[], .slice (some ⟨g, 0, none⟩) n cap, .int .u32 v] w fun e w' => ∃ g' cap', e = .returned (.slice (some ⟨g', 0, none⟩) (n + 4) cap') ∧
      w'.ownsRow base 5 1 (.slice (some ⟨g', 0, none⟩) (n + 4) cap') (n + 4) (xs ++ u8s (bz 4 v)) ∧ Kept [g] w w' ∧ (g' = g ∨ w.heap.size ≤ g') := by
  obtain ⟨i0, hi, hz0, hz1, hz2⟩ := info_parts info5
  have e0 : ((v % 256 : Nat) : Int) = (v : Int) % 256 := by omega
  have e1 : ((v / 256 % 256 : Nat) : Int) = (v : Int) / 256 % 256 := by omega
  have e2 : ((v / 256 / 256 % 256 : Nat) : Int) = (v : Int) / 65536 % 256 := by omega
  have e3 : ((v / 256 / 256 / 256 % 256 : Nat) : Int) = (v : Int) / 16777216 := by omega
  have hb : Hid (u8s (bz 4 v) = [Value.int .u8 ((v : Int) / 16777216), Value.int .u8 ((v : Int) / 65536 % 256), Value.int .u8 ((v : Int) / 256 % 256), Value.int .u8 ((v : Int) % 256)]) := by
    show _ = _
    rw [u8s_bz]
    simp only [Lib.byteCells, Lib.beBytes, Lib.leBytes, List.reverse_cons, List.reverse_nil, List.nil_append, List.cons_append, List.map, Lib.toUInt8_mod, e0, e1, e2, e3]
  clear e0 e1 e2 e3
  go_enter Ybaf.func6, Ybaf.ntmps6
  go_wp2_with (at_builtin; refine wpList_append_lies _ rfl _ _ 24 rfl base 5 i0 (.int .u8 0) 1 1 Ybaf.underlying24 hi hz0 hz1 hz2 rfl (by decide) _ _ _ rfl ((hown.alloc _).alloc _) _ 4 4 [Value.int .u8 ((v : Int) / 16777216), Value.int .u8 ((v : Int) / 65536 % 256), Value.int .u8 ((v : Int) / 256 % 256), Value.int .u8 ((v : Int) % 256)] rfl rfl ?c1 ?c2 (by decide) ?c3 ?c4 ?c5 (w.heap.size + 2) ?c6 ?_)
  case c1 =>
    intro j u hj
    match j, hj with
    | 0, hj => simp at hj; subst hj; simp [Addr.add]
    | 1, hj => simp at hj; subst hj; simp [Addr.add]
    | 2, hj => simp at hj; subst hj; simp [Addr.add]
    | 3, hj => simp at hj; subst hj; simp [Addr.add]
  case c2 => intro u hu; simp at hu; rcases hu with rfl | rfl | rfl | rfl <;> rfl
  case c3 => unfold maxLen; omega
  case c4 => omega
  case c5 => simp; omega
  case c6 => simp
  intro g' cap' w2 hown' hgrow hat hlt
  go_wp2
  go_ret
  refine ⟨g', cap', rfl, by rw [hb.out]; exact hown', ?_, ?_⟩
  · exact (((Kept.refl [g] w).alloc _).alloc _).grown hgrow (fun k hk _ => by simp [Value.ownBlock] at hk; simp [hk])
  · rcases hat with hat | hat
    · simp [Value.ownBlock] at hat; exact .inl hat.symm
    · exact .inr (by omega)
end Go.Proofs.YbulkcxpqFmt
