/-
  Seat b6613197aF: THE CLOSED FACTS FOR A WALK OVER fmt's STOPPED FRONTS (after the guide's NameFmt texts; typed by hand for this dump: three formats, three operand types). Each is proved by the kernel's own evaluation.
-/
import Derived.Test.Qxb6613197aFmtProg
import Derived.Stop.CallBack
import Derived.Stop.IfaceNil
import Derived.Stop.FmtTextLaws
import GoSem.ClaimData
namespace Go.Proofs.Qxb6613197aFmt
open Go.Extern.Stop Go.Stop Go.Extern

@[go_sem] theorem call16 (args : Array Value) (w : World) : (callFunc 16 args).run Tryf.prog w = ((FmtStop.errorf #[9, 56] #[25] args).run Tryf.prog w).andThen fun v w' => .ok (.value v) w' :=
  run_callFunc_extern Tryf.func16 (by kernel_rfl) (by kernel_rfl) (by kernel_rfl) (by kernel_rfl) args w
@[go_sem] theorem call20 (args : Array Value) (w : World) : (callFunc 20 args).run Tryf.prog w = ((FmtStop.sprintf #[9, 56] #[9] args).run Tryf.prog w).andThen fun v w' => .ok (.value v) w' :=
  run_callFunc_extern Tryf.func20 (by kernel_rfl) (by kernel_rfl) (by kernel_rfl) (by kernel_rfl) args w
@[go_sem] theorem guard (name : String) (w : World) : (FmtStop.guard name).run Tryf.prog w = .ok () w := by kernel_rfl
@[go_sem] theorem fmt1 : FmtStop.printed? ⟨#[37, 113, 32, 105, 115, 32, 108, 105, 115, 116, 101, 100, 32, 116, 119, 105, 99, 101]⟩ 1 = some [(0, 113, false)] := by kernel_rfl
@[go_sem] theorem fmt1r (w : World) : (FmtDoors.printed ⟨#[37, 113, 32, 105, 115, 32, 108, 105, 115, 116, 101, 100, 32, 116, 119, 105, 99, 101]⟩ 1).run Tryf.prog w = .ok [(0, 113, false)] w := by kernel_rfl
@[go_sem] theorem fmt2 : FmtStop.printed? ⟨#[116, 101, 114, 109, 32, 37, 100, 32, 105, 115, 32, 97, 98, 111, 118, 101, 32, 37, 100, 44, 32, 116, 104, 101, 32, 104, 105, 103, 104, 101, 115, 116, 32, 116, 101, 114, 109, 32, 111, 102, 32, 97, 32, 103, 114, 111, 117, 112]⟩ 2 = some [(0, 100, false), (1, 100, false)] := by kernel_rfl
@[go_sem] theorem fmt2r (w : World) : (FmtDoors.printed ⟨#[116, 101, 114, 109, 32, 37, 100, 32, 105, 115, 32, 97, 98, 111, 118, 101, 32, 37, 100, 44, 32, 116, 104, 101, 32, 104, 105, 103, 104, 101, 115, 116, 32, 116, 101, 114, 109, 32, 111, 102, 32, 97, 32, 103, 114, 111, 117, 112]⟩ 2).run Tryf.prog w = .ok [(0, 100, false), (1, 100, false)] w := by kernel_rfl
@[go_sem] theorem fmt3 : FmtStop.printed? ⟨#[116, 101, 114, 109, 32, 37, 100, 32, 105, 115, 32, 109, 111, 114, 101, 32, 116, 104, 97, 110, 32, 37, 100, 32, 97, 98, 111, 118, 101, 32, 116, 101, 114, 109, 32, 37, 100, 44, 32, 116, 104, 101, 32, 104, 105, 103, 104, 101, 115, 116, 32, 116, 104, 105, 115, 32, 115, 101, 114, 118, 101, 114, 32, 104, 97, 115, 32, 104, 101, 97, 114, 100, 32, 111, 102]⟩ 3 = some [(0, 100, false), (1, 100, false), (2, 100, false)] := by kernel_rfl
@[go_sem] theorem fmt3r (w : World) : (FmtDoors.printed ⟨#[116, 101, 114, 109, 32, 37, 100, 32, 105, 115, 32, 109, 111, 114, 101, 32, 116, 104, 97, 110, 32, 37, 100, 32, 97, 98, 111, 118, 101, 32, 116, 101, 114, 109, 32, 37, 100, 44, 32, 116, 104, 101, 32, 104, 105, 103, 104, 101, 115, 116, 32, 116, 104, 105, 115, 32, 115, 101, 114, 118, 101, 114, 32, 104, 97, 115, 32, 104, 101, 97, 114, 100, 32, 111, 102]⟩ 3).run Tryf.prog w = .ok [(0, 100, false), (1, 100, false), (2, 100, false)] w := by kernel_rfl
def shape9 : List UInt8 := [12, 6, 0, 0, 0, 0, 0, 0, 0, 115, 116, 114, 105, 110, 103]
def shape28 : List UInt8 := [9, 6, 0, 0, 0, 0, 0, 0, 0, 117, 105, 110, 116, 54, 52]
def shape3 : List UInt8 := [5, 3, 0, 0, 0, 0, 0, 0, 0, 105, 110, 116]
@[go_sem] theorem op9_113w (name : String) (x : ByteArray) (w : World) : (FmtStop.operand name true 113 false (.iface 9 (.string x))).run Tryf.prog w = .ok (shape9, FmtStop.pack x.data.toList) w := by kernel_rfl
@[go_sem] theorem op28_100w (name : String) (x : Int) (w : World) : (FmtStop.operand name true 100 false (.iface 28 (.int .u64 x))).run Tryf.prog w = .ok (shape28, Go.Extern.Stop.digits 8 (x % 2 ^ 64).toNat) w := by kernel_rfl
@[go_sem] theorem op28_100 (name : String) (x : Int) (w : World) : (FmtStop.operand name false 100 false (.iface 28 (.int .u64 x))).run Tryf.prog w = .ok (shape28, Go.Extern.Stop.digits 8 (x % 2 ^ 64).toNat) w := by kernel_rfl
@[go_sem] theorem op3_100 (name : String) (x : Int) (w : World) : (FmtStop.operand name false 100 false (.iface 3 (.int .i64 x))).run Tryf.prog w = .ok (shape3, Go.Extern.Stop.digits 8 (x % 2 ^ 64).toNat) w := by kernel_rfl
@[go_sem] theorem ptr62 (w : World) : (FmtStop.ptrTo "errors.errorString").run Tryf.prog w = .ok 62 w := by kernel_rfl
@[go_sem] theorem elem62 (w : World) : (elemOf 62).run Tryf.prog w = .ok 64 w := by kernel_rfl
@[go_sem] theorem isError62 (w : World) : (FmtDoors.textMethod 62 "Error").run Tryf.prog w = .ok true w := by kernel_rfl
theorem fmt1t : (FmtText.parse [37, 113, 32, 105, 115, 32, 108, 105, 115, 116, 101, 100, 32, 116, 119, 105, 99, 101]).map FmtText.glue = some [.verb {} 113, .lit [32, 105, 115, 32, 108, 105, 115, 116, 101, 100, 32, 116, 119, 105, 99, 101]] := by rfl
theorem fmt2t : (FmtText.parse [116, 101, 114, 109, 32, 37, 100, 32, 105, 115, 32, 97, 98, 111, 118, 101, 32, 37, 100, 44, 32, 116, 104, 101, 32, 104, 105, 103, 104, 101, 115, 116, 32, 116, 101, 114, 109, 32, 111, 102, 32, 97, 32, 103, 114, 111, 117, 112]).map FmtText.glue = some [.lit [116, 101, 114, 109, 32], .verb {} 100, .lit [32, 105, 115, 32, 97, 98, 111, 118, 101, 32], .verb {} 100, .lit [44, 32, 116, 104, 101, 32, 104, 105, 103, 104, 101, 115, 116, 32, 116, 101, 114, 109, 32, 111, 102, 32, 97, 32, 103, 114, 111, 117, 112]] := by rfl
theorem fmt3t : (FmtText.parse [116, 101, 114, 109, 32, 37, 100, 32, 105, 115, 32, 109, 111, 114, 101, 32, 116, 104, 97, 110, 32, 37, 100, 32, 97, 98, 111, 118, 101, 32, 116, 101, 114, 109, 32, 37, 100, 44, 32, 116, 104, 101, 32, 104, 105, 103, 104, 101, 115, 116, 32, 116, 104, 105, 115, 32, 115, 101, 114, 118, 101, 114, 32, 104, 97, 115, 32, 104, 101, 97, 114, 100, 32, 111, 102]).map FmtText.glue = some [.lit [116, 101, 114, 109, 32], .verb {} 100, .lit [32, 105, 115, 32, 109, 111, 114, 101, 32, 116, 104, 97, 110, 32], .verb {} 100, .lit [32, 97, 98, 111, 118, 101, 32, 116, 101, 114, 109, 32], .verb {} 100, .lit [44, 32, 116, 104, 101, 32, 104, 105, 103, 104, 101, 115, 116, 32, 116, 104, 105, 115, 32, 115, 101, 114, 118, 101, 114, 32, 104, 97, 115, 32, 104, 101, 97, 114, 100, 32, 111, 102]] := by rfl
end Go.Proofs.Qxb6613197aFmt
