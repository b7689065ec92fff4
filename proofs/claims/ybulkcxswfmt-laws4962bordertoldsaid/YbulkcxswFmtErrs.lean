import Derived.Test.YbulkcxswFmtKept
import Derived.Test.YbulkcxswFmtRows
import Derived.Stop.FmtLaws
import Derived.Laws.Externs
import GoSem.ClaimData
namespace Go.Proofs.YbulkcxswFmt
open Go.RowKit Go.Extern.Stop Go.Stop Go.Extern

theorem call17 (args : Array Value) (w : World) : (callFunc 17 args).run Ybaf.prog w = ((FmtStop.errorf #[9, 75] #[42] args).run Ybaf.prog w).andThen fun v w' => .ok (.value v) w' :=
  run_callFunc_extern Ybaf.func17 (by kernel_rfl) (by kernel_rfl) (by kernel_rfl) (by kernel_rfl) args w
theorem guardF (name : String) (w : World) : (FmtStop.guard name).run Ybaf.prog w = .ok () w := by kernel_rfl
theorem ptr77 (w : World) : (FmtStop.ptrTo "fmt.wrapError").run Ybaf.prog w = .ok 77 w := by kernel_rfl
theorem elem77 (w : World) : (elemOf 77).run Ybaf.prog w = .ok 148 w := by kernel_rfl
theorem fmtW : FmtStop.printed? ⟨#[37, 119, 58, 32, 37, 115]⟩ 2 = some [(0, 119, false), (1, 115, false)] := by kernel_rfl
theorem fmtWr (w : World) : (FmtDoors.printed ⟨#[37, 119, 58, 32, 37, 115]⟩ 2).run Ybaf.prog w = .ok [(0, 119, false), (1, 115, false)] w := by kernel_rfl
theorem isErr90 (w : World) : (FmtDoors.textMethod 90 "Error").run Ybaf.prog w = .ok true w := by kernel_rfl
def shape9 : List UInt8 := [12, 6, 0, 0, 0, 0, 0, 0, 0, 115, 116, 114, 105, 110, 103]
theorem op9 (name : String) (x : ByteArray) (w : World) : (FmtStop.operand name true 115 false (.iface 9 (.string x))).run Ybaf.prog w = .ok (shape9, FmtStop.pack x.data.toList) w := by kernel_rfl
def errT : String := match Rows.laid_example_com_stackwright_stackwright_internal_template_ErrCycle (H := Unit) with
  | .iface n _ => n
  | _ => ""
def plain90 : List UInt8 := 14 :: FmtStop.pack errT.toUTF8.data.toList
theorem op90 (name : String) (a : Addr) (s : ByteArray) (w : World) (hc : w.cell? a = some (.string s)) :
    (FmtStop.operand name true 119 false (.iface 90 (.pointer (some a)))).run Ybaf.prog w = .ok (plain90, s.data.toList) w := by
  have h1 : (typeStr 90).run Ybaf.prog w = .ok errT w := by kernel_rfl
  have d2 : Ybaf.t90.desc = .pointer 92 := rfl
  have d3 : Ybaf.t92.desc = .named "errors.errorString" 91 := rfl
  simp [FmtStop.operand, h1, d2, d3, run_load, hc, plain90]
attribute [local go_sem] call17 guardF ptr77 elem77 fmtW fmtWr op9 isErr90

set_option maxRecDepth 100000 in
set_option maxHeartbeats 800000 in
theorem errorf_any (F : Interp) (a : Addr) (s t : ByteArray) (V : Nat) (w : World) (hF : F.answers w.tape) (hc : w.cell? a = some (.string s)) (c0 : w.cell? ⟨V, 0, none⟩ = some (.iface 90 (.pointer (some a)))) (c1 : w.cell? ⟨V, 1, none⟩ = some (.iface 9 (.string t))) :
    Calls Ybaf.prog 13 #[.string ⟨#[37, 119, 58, 32, 37, 115]⟩, .slice (some ⟨V, 0, none⟩) 2 2] w fun e w' => ∃ k, e = .returned (.iface 77 (.pointer (some ⟨k, 0, none⟩))) ∧ k < w'.heap.size ∧ w'.cell? ⟨k, 1, none⟩ = some (.iface 90 (.pointer (some a))) ∧ Below w.heap.size w w' := by
  have hF' := hF
  unfold Interp.answers at hF'
  have hop := op90 "fmt.errorf" a s w hc
  go_enter Ybaf.func13, Ybaf.ntmps13
  go_wp2_with fail
  go_ret
  refine ⟨w.heap.size, rfl, ?_, ?_, (((Below.refl _ _).alloc (Nat.le_refl _) _).drew)⟩
  · simp
  · simp
end Go.Proofs.YbulkcxswFmt
