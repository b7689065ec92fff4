import Derived.Test.YbulkcxpqProg
import Derived.Conc.MuLib
import Derived.Conc.MuLone
import Derived.KernelRfl
namespace Go.Proofs
abbrev Yba.muLink : Go.Conc.Locks.MuLink := { lock := 7, unlock := 6, ilock := 10, iunlock := 9, lockSlow := 18, unlockSlow := 17, disable := 11, enable := 12, acquire := 14, relMerge := 15, cas32 := 13, add32 := 16, tMutex := 46, tIMutex := 44, tPMutex := 81, tPIMutex := 82, tPI32 := 84, tUP := 86, tNoCopy := 42, tU32 := 39 }
theorem Yba.muLib : Go.Conc.Locks.MuLib Yba.prog Yba.muLink :=
  ⟨Yba.func7, Yba.func6, Yba.func10, Yba.func9, Yba.func11, Yba.func12, Yba.func14, Yba.func15, Yba.func13, Yba.func16, Yba.underlying44, Yba.runUnderlying44, Yba.sizeOf44, Yba.isAgg44, Yba.zeroValue44, Yba.underlying46, Yba.runUnderlying46, Yba.sizeOf46, Yba.isAgg46, Yba.zeroValue46, Yba.underlying81, Yba.runUnderlying81, Yba.sizeOf81, Yba.isAgg81, Yba.zeroValue81, Yba.underlying82, Yba.runUnderlying82, Yba.sizeOf82, Yba.isAgg82, Yba.zeroValue82, Yba.underlying84, Yba.runUnderlying84, Yba.sizeOf84, Yba.isAgg84, Yba.zeroValue84, Yba.underlying86, Yba.runUnderlying86, Yba.sizeOf86, Yba.isAgg86, Yba.zeroValue86, Yba.underlying42, Yba.runUnderlying42, Yba.sizeOf42, Yba.isAgg42, Yba.zeroValue42, Yba.underlying21, Yba.runUnderlying21, Yba.sizeOf21, Yba.isAgg21, Yba.zeroValue21, (by kernel_rfl)⟩
namespace Ybulkcxpq
open Go.MuLone

set_option maxRecDepth 100000 in
set_option maxHeartbeats 800000 in
theorem itry_free (a : Addr) (w : World) (hc : w.cell? a = some (.int .i32 0)) (hz : w.frozen? a = false) :
    Calls Yba.prog 8 #[.pointer (some a)] w fun e w' => e = .returned (.bool true) ∧ w' = w.setCell a (.int .i32 1) := by
  have hd : ∀ w : World, (callFunc 11 #[]).run Yba.prog w = .ok (.value (.tuple #[])) w := disable Yba.muLib
  have he : ∀ w : World, (callFunc 12 #[]).run Yba.prog w = .ok (.value (.tuple #[])) w := enable Yba.muLib
  have ha : ∀ (a : Addr) (w : World), (callFunc 14 #[.pointer (some a)]).run Yba.prog w = .ok (.value (.tuple #[])) w := acquire Yba.muLib
  have hcas := run_call_cas_hit (P := Yba.prog) Yba.func13 (by kernel_rfl) (by kernel_rfl) (by kernel_rfl) .i32 (by kernel_rfl) (y := 1) hc hz
  have hc' : (w.setCell a (.int .i32 1)).cell? a = some (.int .i32 1) := by simp [go_sem, hc]
  have hcv : (convert 82 86 (.pointer (some a))).run Yba.prog (w.setCell a (.int .i32 1)) = .ok (.pointer (some a)) (w.setCell a (.int .i32 1)) := by
    obtain ⟨e, n, hsh, hlt, hsp⟩ := World.shape?_of_cell? hc'
    obtain ⟨i, hi, hz0⟩ := Option.map_eq_some_iff.1 Yba.muLib.room_tIMutex
    have hz : i.size ≠ 0 := by simpa using hz0
    have hge : ¬ (n ≤ a.off) := by omega
    simp [convert, run_underlying Yba.underlying82, run_underlying Yba.underlying86, Result.andThen]
    change Sem.run Yba.prog (underlying 82 >>= _) _ = _
    simp [Conv.seenAt, viewAt, cellsIn, sizeOf, typeInfo, run_underlying Yba.underlying82, run_underlying Yba.underlying86, hi, hz, hsh, hge, Result.andThen]
  have hb1 : ∀ w, (binOp .and 21 (.int .i32 0) (.int .i32 5)).run Yba.prog w = .ok (.int .i32 0) w := fun _ => by kernel_rfl
  have hb2 : ∀ w, (binOp .or 21 (.int .i32 0) (.int .i32 1)).run Yba.prog w = .ok (.int .i32 1) w := fun _ => by kernel_rfl
  have hnt : ∀ w, (Op.unary UnOp.not (.bool true)).run Yba.prog w = .ok (.bool false) w := fun _ => by kernel_rfl
  have hb3 : bits BinOp.and .i32 0 5 = 0 := by decide
  have hb4 : bits BinOp.or .i32 0 1 = 1 := by decide
  go_enter Yba.func8, Yba.ntmps8
  go_wp2
  go_ret
  exact ⟨rfl, rfl⟩
set_option maxHeartbeats 800000 in
theorem try_free (a : Addr) (w : World) (hc : w.cell? a = some (.int .i32 0)) (hz : w.frozen? a = false) :
    Calls Yba.prog 5 #[.pointer (some a)] w fun e w' => e = .returned (.bool true) ∧ w' = w.setCell a (.int .i32 1) := by
  go_enter Yba.func5, Yba.ntmps5
  go_wp2_with (go_at_call 8; refine (itry_free a _ hc hz).mono ?_; rintro e w' ⟨rfl, rfl⟩)
  go_ret
  exact ⟨rfl, rfl⟩
end Ybulkcxpq
end Go.Proofs
