import Derived.Test.YbulkcxpqFmtKept
import Derived.Test.YbulkcxpqFmtRows
import Derived.Stop.FmtLaws
import Derived.Laws.Externs
import GoSem.ClaimData
namespace Go.Proofs.YbulkcxpqFmt
open Go.RowKit Go.Extern.Stop Go.Stop Go.Extern

theorem call22 (args : Array Value) (w : World) : (callFunc 22 args).run Ybaf.prog w = ((FmtStop.errorf #[9, 64] #[31] args).run Ybaf.prog w).andThen fun v w' => .ok (.value v) w' :=
  run_callFunc_extern Ybaf.func22 (by kernel_rfl) (by kernel_rfl) (by kernel_rfl) (by kernel_rfl) args w
theorem guardF (name : String) (w : World) : (FmtStop.guard name).run Ybaf.prog w = .ok () w := by kernel_rfl
theorem ptr69 (w : World) : (FmtStop.ptrTo "errors.errorString").run Ybaf.prog w = .ok 69 w := by kernel_rfl
theorem elem69 (w : World) : (elemOf 69).run Ybaf.prog w = .ok 71 w := by kernel_rfl

def text0 : ByteArray := ⟨#[97, 32, 112, 97, 121, 108, 111, 97, 100, 32, 116, 97, 107, 101, 115, 32, 97, 116, 32, 108, 101, 97, 115, 116, 32, 56, 32, 98, 121, 116, 101, 115, 44, 32, 110, 111, 116, 32, 37, 100]⟩
theorem fmt0 : FmtStop.printed? ⟨#[97, 32, 112, 97, 121, 108, 111, 97, 100, 32, 116, 97, 107, 101, 115, 32, 97, 116, 32, 108, 101, 97, 115, 116, 32, 56, 32, 98, 121, 116, 101, 115, 44, 32, 110, 111, 116, 32, 37, 100]⟩ 1 = some [(0, 100, false)] := by kernel_rfl
theorem fmt0r (w : World) : (FmtDoors.printed ⟨#[97, 32, 112, 97, 121, 108, 111, 97, 100, 32, 116, 97, 107, 101, 115, 32, 97, 116, 32, 108, 101, 97, 115, 116, 32, 56, 32, 98, 121, 116, 101, 115, 44, 32, 110, 111, 116, 32, 37, 100]⟩ 1).run Ybaf.prog w = .ok [(0, 100, false)] w := by kernel_rfl
def text1 : ByteArray := ⟨#[97, 32, 108, 105, 115, 116, 32, 111, 102, 32, 116, 114, 97, 110, 115, 97, 99, 116, 105, 111, 110, 115, 32, 104, 111, 108, 100, 115, 32, 97, 116, 32, 109, 111, 115, 116, 32, 37, 100]⟩
theorem fmt1 : FmtStop.printed? ⟨#[97, 32, 108, 105, 115, 116, 32, 111, 102, 32, 116, 114, 97, 110, 115, 97, 99, 116, 105, 111, 110, 115, 32, 104, 111, 108, 100, 115, 32, 97, 116, 32, 109, 111, 115, 116, 32, 37, 100]⟩ 1 = some [(0, 100, false)] := by kernel_rfl
theorem fmt1r (w : World) : (FmtDoors.printed ⟨#[97, 32, 108, 105, 115, 116, 32, 111, 102, 32, 116, 114, 97, 110, 115, 97, 99, 116, 105, 111, 110, 115, 32, 104, 111, 108, 100, 115, 32, 97, 116, 32, 109, 111, 115, 116, 32, 37, 100]⟩ 1).run Ybaf.prog w = .ok [(0, 100, false)] w := by kernel_rfl
def text2 : ByteArray := ⟨#[97, 32, 116, 114, 97, 110, 115, 97, 99, 116, 105, 111, 110, 39, 115, 32, 108, 101, 110, 103, 116, 104, 32, 116, 97, 107, 101, 115, 32, 52, 32, 98, 121, 116, 101, 115, 44, 32, 110, 111, 116, 32, 37, 100]⟩
theorem fmt2 : FmtStop.printed? ⟨#[97, 32, 116, 114, 97, 110, 115, 97, 99, 116, 105, 111, 110, 39, 115, 32, 108, 101, 110, 103, 116, 104, 32, 116, 97, 107, 101, 115, 32, 52, 32, 98, 121, 116, 101, 115, 44, 32, 110, 111, 116, 32, 37, 100]⟩ 1 = some [(0, 100, false)] := by kernel_rfl
theorem fmt2r (w : World) : (FmtDoors.printed ⟨#[97, 32, 116, 114, 97, 110, 115, 97, 99, 116, 105, 111, 110, 39, 115, 32, 108, 101, 110, 103, 116, 104, 32, 116, 97, 107, 101, 115, 32, 52, 32, 98, 121, 116, 101, 115, 44, 32, 110, 111, 116, 32, 37, 100]⟩ 1).run Ybaf.prog w = .ok [(0, 100, false)] w := by kernel_rfl
def text3 : ByteArray := ⟨#[97, 32, 116, 114, 97, 110, 115, 97, 99, 116, 105, 111, 110, 32, 104, 111, 108, 100, 115, 32, 49, 32, 116, 111, 32, 37, 100, 32, 98, 121, 116, 101, 115, 44, 32, 110, 111, 116, 32, 37, 100]⟩
theorem fmt3 : FmtStop.printed? ⟨#[97, 32, 116, 114, 97, 110, 115, 97, 99, 116, 105, 111, 110, 32, 104, 111, 108, 100, 115, 32, 49, 32, 116, 111, 32, 37, 100, 32, 98, 121, 116, 101, 115, 44, 32, 110, 111, 116, 32, 37, 100]⟩ 2 = some [(0, 100, false), (1, 100, false)] := by kernel_rfl
theorem fmt3r (w : World) : (FmtDoors.printed ⟨#[97, 32, 116, 114, 97, 110, 115, 97, 99, 116, 105, 111, 110, 32, 104, 111, 108, 100, 115, 32, 49, 32, 116, 111, 32, 37, 100, 32, 98, 121, 116, 101, 115, 44, 32, 110, 111, 116, 32, 37, 100]⟩ 2).run Ybaf.prog w = .ok [(0, 100, false), (1, 100, false)] w := by kernel_rfl
def text4 : ByteArray := ⟨#[97, 32, 116, 114, 97, 110, 115, 97, 99, 116, 105, 111, 110, 32, 111, 102, 32, 37, 100, 32, 98, 121, 116, 101, 115, 32, 99, 117, 116, 32, 115, 104, 111, 114, 116, 32, 97, 116, 32, 37, 100]⟩
theorem fmt4 : FmtStop.printed? ⟨#[97, 32, 116, 114, 97, 110, 115, 97, 99, 116, 105, 111, 110, 32, 111, 102, 32, 37, 100, 32, 98, 121, 116, 101, 115, 32, 99, 117, 116, 32, 115, 104, 111, 114, 116, 32, 97, 116, 32, 37, 100]⟩ 2 = some [(0, 100, false), (1, 100, false)] := by kernel_rfl
theorem fmt4r (w : World) : (FmtDoors.printed ⟨#[97, 32, 116, 114, 97, 110, 115, 97, 99, 116, 105, 111, 110, 32, 111, 102, 32, 37, 100, 32, 98, 121, 116, 101, 115, 32, 99, 117, 116, 32, 115, 104, 111, 114, 116, 32, 97, 116, 32, 37, 100]⟩ 2).run Ybaf.prog w = .ok [(0, 100, false), (1, 100, false)] w := by kernel_rfl
def shape2 : List UInt8 := FmtStop.intCode .i64 :: FmtStop.pack "int64".toUTF8.data.toList
theorem op2 (name : String) (x : Int) (w : World) : (FmtStop.operand name true 100 false (.iface 2 (.int .i64 x))).run Ybaf.prog w = .ok (shape2, Go.Extern.Stop.digits 8 (x % 2 ^ 64).toNat) w := by kernel_rfl
def shape3 : List UInt8 := FmtStop.intCode .i64 :: FmtStop.pack "int".toUTF8.data.toList
theorem op3 (name : String) (x : Int) (w : World) : (FmtStop.operand name true 100 false (.iface 3 (.int .i64 x))).run Ybaf.prog w = .ok (shape3, Go.Extern.Stop.digits 8 (x % 2 ^ 64).toNat) w := by kernel_rfl
def shape29 : List UInt8 := FmtStop.intCode .u32 :: FmtStop.pack "uint32".toUTF8.data.toList
theorem op29 (name : String) (x : Int) (w : World) : (FmtStop.operand name true 100 false (.iface 29 (.int .u32 x))).run Ybaf.prog w = .ok (shape29, Go.Extern.Stop.digits 8 (x % 2 ^ 64).toNat) w := by kernel_rfl
attribute [local go_sem] op2 op3 op29 call22 guardF ptr69 elem69 fmt0 fmt0r fmt1 fmt1r fmt2 fmt2r fmt3 fmt3r fmt4 fmt4r

set_option maxHeartbeats 400000 in
theorem errorf0 (F : Interp) (x0 : Int) (V : Nat) (w : World) (hF : F.answers w.tape) (c0 : w.cell? ⟨V, 0, none⟩ = some (.iface 2 (.int .i64 x0))) :
    Calls Ybaf.prog 16 #[.string ⟨#[97, 32, 112, 97, 121, 108, 111, 97, 100, 32, 116, 97, 107, 101, 115, 32, 97, 116, 32, 108, 101, 97, 115, 116, 32, 56, 32, 98, 121, 116, 101, 115, 44, 32, 110, 111, 116, 32, 37, 100]⟩, .slice (some ⟨V, 0, none⟩) 1 1] w fun e w' => ∃ a, e = .returned (.iface 69 (.pointer (some a))) ∧ Below w.heap.size w w' := by
  have hF' := hF
  unfold Interp.answers at hF'
  go_enter Ybaf.func16, Ybaf.ntmps16
  go_wp2
  go_ret
  exact ⟨_, rfl, (((Below.refl _ _).alloc (Nat.le_refl _) _).drew)⟩

set_option maxHeartbeats 400000 in
theorem errorf1 (F : Interp) (x0 : Int) (V : Nat) (w : World) (hF : F.answers w.tape) (c0 : w.cell? ⟨V, 0, none⟩ = some (.iface 3 (.int .i64 x0))) :
    Calls Ybaf.prog 16 #[.string ⟨#[97, 32, 108, 105, 115, 116, 32, 111, 102, 32, 116, 114, 97, 110, 115, 97, 99, 116, 105, 111, 110, 115, 32, 104, 111, 108, 100, 115, 32, 97, 116, 32, 109, 111, 115, 116, 32, 37, 100]⟩, .slice (some ⟨V, 0, none⟩) 1 1] w fun e w' => ∃ a, e = .returned (.iface 69 (.pointer (some a))) ∧ Below w.heap.size w w' := by
  have hF' := hF
  unfold Interp.answers at hF'
  go_enter Ybaf.func16, Ybaf.ntmps16
  go_wp2
  go_ret
  exact ⟨_, rfl, (((Below.refl _ _).alloc (Nat.le_refl _) _).drew)⟩

set_option maxHeartbeats 400000 in
theorem errorf2 (F : Interp) (x0 : Int) (V : Nat) (w : World) (hF : F.answers w.tape) (c0 : w.cell? ⟨V, 0, none⟩ = some (.iface 2 (.int .i64 x0))) :
    Calls Ybaf.prog 16 #[.string ⟨#[97, 32, 116, 114, 97, 110, 115, 97, 99, 116, 105, 111, 110, 39, 115, 32, 108, 101, 110, 103, 116, 104, 32, 116, 97, 107, 101, 115, 32, 52, 32, 98, 121, 116, 101, 115, 44, 32, 110, 111, 116, 32, 37, 100]⟩, .slice (some ⟨V, 0, none⟩) 1 1] w fun e w' => ∃ a, e = .returned (.iface 69 (.pointer (some a))) ∧ Below w.heap.size w w' := by
  have hF' := hF
  unfold Interp.answers at hF'
  go_enter Ybaf.func16, Ybaf.ntmps16
  go_wp2
  go_ret
  exact ⟨_, rfl, (((Below.refl _ _).alloc (Nat.le_refl _) _).drew)⟩

set_option maxHeartbeats 400000 in
theorem errorf3 (F : Interp) (x0 : Int) (x1 : Int) (V : Nat) (w : World) (hF : F.answers w.tape) (c0 : w.cell? ⟨V, 0, none⟩ = some (.iface 3 (.int .i64 x0))) (c1 : w.cell? ⟨V, 1, none⟩ = some (.iface 29 (.int .u32 x1))) :
    Calls Ybaf.prog 16 #[.string ⟨#[97, 32, 116, 114, 97, 110, 115, 97, 99, 116, 105, 111, 110, 32, 104, 111, 108, 100, 115, 32, 49, 32, 116, 111, 32, 37, 100, 32, 98, 121, 116, 101, 115, 44, 32, 110, 111, 116, 32, 37, 100]⟩, .slice (some ⟨V, 0, none⟩) 2 2] w fun e w' => ∃ a, e = .returned (.iface 69 (.pointer (some a))) ∧ Below w.heap.size w w' := by
  have hF' := hF
  unfold Interp.answers at hF'
  go_enter Ybaf.func16, Ybaf.ntmps16
  go_wp2
  go_ret
  exact ⟨_, rfl, (((Below.refl _ _).alloc (Nat.le_refl _) _).drew)⟩

set_option maxHeartbeats 400000 in
theorem errorf4 (F : Interp) (x0 : Int) (x1 : Int) (V : Nat) (w : World) (hF : F.answers w.tape) (c0 : w.cell? ⟨V, 0, none⟩ = some (.iface 29 (.int .u32 x0))) (c1 : w.cell? ⟨V, 1, none⟩ = some (.iface 2 (.int .i64 x1))) :
    Calls Ybaf.prog 16 #[.string ⟨#[97, 32, 116, 114, 97, 110, 115, 97, 99, 116, 105, 111, 110, 32, 111, 102, 32, 37, 100, 32, 98, 121, 116, 101, 115, 32, 99, 117, 116, 32, 115, 104, 111, 114, 116, 32, 97, 116, 32, 37, 100]⟩, .slice (some ⟨V, 0, none⟩) 2 2] w fun e w' => ∃ a, e = .returned (.iface 69 (.pointer (some a))) ∧ Below w.heap.size w w' := by
  have hF' := hF
  unfold Interp.answers at hF'
  go_enter Ybaf.func16, Ybaf.ntmps16
  go_wp2
  go_ret
  exact ⟨_, rfl, (((Below.refl _ _).alloc (Nat.le_refl _) _).drew)⟩
end Go.Proofs.YbulkcxpqFmt
