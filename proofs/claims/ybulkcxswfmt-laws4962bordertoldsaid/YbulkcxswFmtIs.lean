import Derived.Test.YbulkcxswFmtRows
import Derived.WalkKit
import Derived.LaidEql
import Derived.Stop.Asserts
import Derived.RowKitTokens
namespace Go.Proofs.YbulkcxswFmt
open Go.RowKit Go.Extern.Stop Go.Stop Go.Extern

theorem isTypeOf (v : Value) (w : World) : (Extern.ReflectliteType.typeOf #[.iface 90 v]).run Ybaf.prog w = .ok (.iface 66 (.agg #[.pointer (some ⟨2, 90, none⟩)])) w := by kernel_rfl
theorem isComparable0 (w : World) : ((Extern.ReflectliteType.method fun t => do Go.Extern.Rtype.noPackHeld "Comparable" t; pure (.bool (← typeInfo t).comparable)) #[.agg #[.pointer (some ⟨2, 90, none⟩)]]).run Ybaf.prog w = .ok (.bool true) w := by kernel_rfl
theorem isComparable (w : World) : (callFunc 66 #[.agg #[.pointer (some ⟨2, 90, none⟩)]]).run Ybaf.prog w = .ok (.value (.bool true)) w := by
  have h := @run_callFunc_extern Ybaf.prog 66 _ (Extern.ReflectliteType.method fun t => do Go.Extern.Rtype.noPackHeld "Comparable" t; pure (.bool (← typeInfo t).comparable)) Ybaf.func66 (by kernel_rfl) (by kernel_rfl) (by kernel_rfl) (by kernel_rfl)
  rw [h, isComparable0]
  rfl
theorem isMethodComparable (v : Value) (w : World) : (Go.method 260 66 v "Comparable").run Ybaf.prog w = .ok (66, v) w := by kernel_rfl
theorem isComp : (Ybaf.prog.info? 90).map (·.comparable) = some true := by kernel_rfl
theorem isSize : (Ybaf.prog.info? 92).map (·.size) = some 1 := by kernel_rfl
theorem noIsE (v : Value) (xT : TypeId) (w : World) : (Instr.typeAssert (.iface 90 v) xT 68 true).run Ybaf.prog w = .ok (.tuple #[.nilIface, .bool false]) w := run_typeAssert_lacksB Ybaf.underlying68 (by kernel_rfl) (by kernel_rfl) v xT w
theorem noIsW (v : Value) (xT : TypeId) (w : World) : (Instr.typeAssert (.iface 77 v) xT 68 true).run Ybaf.prog w = .ok (.tuple #[.nilIface, .bool false]) w := run_typeAssert_lacksB Ybaf.underlying68 (by kernel_rfl) (by kernel_rfl) v xT w
theorem hasUnwrapW (v : Value) (xT : TypeId) (w : World) : (Instr.typeAssert (.iface 77 v) xT 71 true).run Ybaf.prog w = .ok (.tuple #[.iface 77 v, .bool true]) w := run_typeAssert_hasB Ybaf.underlying71 (by kernel_rfl) v xT w
theorem methodUnwrap (v : Value) (w : World) : (Go.method 260 77 v "Unwrap").run Ybaf.prog w = .ok (76, v) w := by kernel_rfl

set_option maxRecDepth 100000 in
set_option maxHeartbeats 1600000 in
/-- errors.Is(e, x), e a *fmt.wrapError that wraps x itself: one Unwrap, then equal. -/
theorem is_wrap_same (pb po : Nat) (b : Addr) (w : World) (h1 : w.cell? ⟨pb, po + 1, none⟩ = some (.iface 90 (.pointer (some b)))) :
    Calls Ybaf.prog 6 #[.iface 77 (.pointer (some ⟨pb, po, none⟩)), .iface 90 (.pointer (some b))] w fun e w' => e = .returned (.bool true) ∧ w' = w := by
  obtain ⟨i, hi, hcmp⟩ := Option.map_eq_some_iff.1 isComp
  obtain ⟨j, hj, hjs⟩ := Option.map_eq_some_iff.1 isSize
  have h8 := @run_callFunc_extern Ybaf.prog 9 _ Extern.ReflectliteType.typeOf Ybaf.func9 (by kernel_rfl) (by kernel_rfl) (by kernel_rfl) (by kernel_rfl)
  have tT := isTypeOf
  have cT := isComparable
  have mR := isMethodComparable
  have nE := noIsE
  have nW := noIsW
  have uW := hasUnwrapW
  have mU := methodUnwrap
  have heq := run_eql_iface_ptr_same (P := Ybaf.prog) w b Ybaf.underlying42 Ybaf.underlying90 hi hcmp hj
  have hty := run_eql_iface_types (P := Ybaf.prog) 77 90 (.pointer (some ⟨pb, po, none⟩)) (.pointer (some b)) Ybaf.underlying42 (by decide) w
  go_enter Ybaf.func6, Ybaf.ntmps6
  go_wp2
  refine wp_loop_rounds 2 ?_
  rw [rounds_succ]
  go_wp2
  rw [rounds_succ]
  go_wp2
  go_ret
  exact ⟨rfl, rfl⟩
end Go.Proofs.YbulkcxswFmt
