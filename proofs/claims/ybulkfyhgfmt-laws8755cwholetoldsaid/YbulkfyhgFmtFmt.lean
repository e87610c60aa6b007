/-
  The closed facts for a walk over fmt's stopped fronts (Sprintf: function 19; errorf: function 20), typed by hand after the worked LabelFmt, CheckFmt; each by the kernel's own evaluation.
-/
import Derived.Test.YbulkfyhgFmtProg
import Derived.Stop.CallBack
import Derived.Stop.IfaceNil
import GoSem.ClaimData
namespace Go.Proofs
open Go.Extern.Stop Go.Stop Go.Extern

@[go_sem] theorem Ybaf.call19 (args : Array Value) (w : World) : (callFunc 19 args).run Ybaf.prog w = ((FmtStop.sprintf #[9, 57] #[9] args).run Ybaf.prog w).andThen fun v w' => .ok (.value v) w' :=
  run_callFunc_extern Ybaf.func19 (by kernel_rfl) (by kernel_rfl) (by kernel_rfl) (by kernel_rfl) args w
@[go_sem] theorem Ybaf.call20 (args : Array Value) (w : World) : (callFunc 20 args).run Ybaf.prog w = ((FmtStop.errorf #[9, 57] #[34] args).run Ybaf.prog w).andThen fun v w' => .ok (.value v) w' :=
  run_callFunc_extern Ybaf.func20 (by kernel_rfl) (by kernel_rfl) (by kernel_rfl) (by kernel_rfl) args w

@[go_sem] theorem Ybaf.guard (name : String) (w : World) : (FmtStop.guard name).run Ybaf.prog w = .ok () w := by kernel_rfl

-- "more than the %d the relay keeps"
@[go_sem] theorem Ybaf.fmt_more : FmtStop.printed? ⟨#[109, 111, 114, 101, 32, 116, 104, 97, 110, 32, 116, 104, 101, 32, 37, 100, 32, 116, 104, 101, 32, 114, 101, 108, 97, 121, 32, 107, 101, 101, 112, 115]⟩ 1 = some [(0, 100, false)] := by kernel_rfl
@[go_sem] theorem Ybaf.fmt_morer (w : World) : (FmtDoors.printed ⟨#[109, 111, 114, 101, 32, 116, 104, 97, 110, 32, 116, 104, 101, 32, 37, 100, 32, 116, 104, 101, 32, 114, 101, 108, 97, 121, 32, 107, 101, 101, 112, 115]⟩ 1).run Ybaf.prog w = .ok [(0, 100, false)] w := by kernel_rfl
-- "%d bytes, more than the %d the relay keeps"
@[go_sem] theorem Ybaf.fmt_byts : FmtStop.printed? ⟨#[37, 100, 32, 98, 121, 116, 101, 115, 44, 32, 109, 111, 114, 101, 32, 116, 104, 97, 110, 32, 116, 104, 101, 32, 37, 100, 32, 116, 104, 101, 32, 114, 101, 108, 97, 121, 32, 107, 101, 101, 112, 115]⟩ 2 = some [(0, 100, false), (1, 100, false)] := by kernel_rfl
@[go_sem] theorem Ybaf.fmt_bytsr (w : World) : (FmtDoors.printed ⟨#[37, 100, 32, 98, 121, 116, 101, 115, 44, 32, 109, 111, 114, 101, 32, 116, 104, 97, 110, 32, 116, 104, 101, 32, 37, 100, 32, 116, 104, 101, 32, 114, 101, 108, 97, 121, 32, 107, 101, 101, 112, 115]⟩ 2).run Ybaf.prog w = .ok [(0, 100, false), (1, 100, false)] w := by kernel_rfl
-- "let go of the %d items it had not acknowledged, %s"
@[go_sem] theorem Ybaf.fmt_letgo : FmtStop.printed? ⟨#[108, 101, 116, 32, 103, 111, 32, 111, 102, 32, 116, 104, 101, 32, 37, 100, 32, 105, 116, 101, 109, 115, 32, 105, 116, 32, 104, 97, 100, 32, 110, 111, 116, 32, 97, 99, 107, 110, 111, 119, 108, 101, 100, 103, 101, 100, 44, 32, 37, 115]⟩ 2 = some [(0, 100, false), (1, 115, false)] := by kernel_rfl
@[go_sem] theorem Ybaf.fmt_letgor (w : World) : (FmtDoors.printed ⟨#[108, 101, 116, 32, 103, 111, 32, 111, 102, 32, 116, 104, 101, 32, 37, 100, 32, 105, 116, 101, 109, 115, 32, 105, 116, 32, 104, 97, 100, 32, 110, 111, 116, 32, 97, 99, 107, 110, 111, 119, 108, 101, 100, 103, 101, 100, 44, 32, 37, 115]⟩ 2).run Ybaf.prog w = .ok [(0, 100, false), (1, 115, false)] w := by kernel_rfl
-- "it acknowledges item %d, and the stream has %d"
@[go_sem] theorem Ybaf.fmt_acks : FmtStop.printed? ⟨#[105, 116, 32, 97, 99, 107, 110, 111, 119, 108, 101, 100, 103, 101, 115, 32, 105, 116, 101, 109, 32, 37, 100, 44, 32, 97, 110, 100, 32, 116, 104, 101, 32, 115, 116, 114, 101, 97, 109, 32, 104, 97, 115, 32, 37, 100]⟩ 2 = some [(0, 100, false), (1, 100, false)] := by kernel_rfl
@[go_sem] theorem Ybaf.fmt_acksr (w : World) : (FmtDoors.printed ⟨#[105, 116, 32, 97, 99, 107, 110, 111, 119, 108, 101, 100, 103, 101, 115, 32, 105, 116, 101, 109, 32, 37, 100, 44, 32, 97, 110, 100, 32, 116, 104, 101, 32, 115, 116, 114, 101, 97, 109, 32, 104, 97, 115, 32, 37, 100]⟩ 2).run Ybaf.prog w = .ok [(0, 100, false), (1, 100, false)] w := by kernel_rfl

def Ybaf.shape3 : List UInt8 := [5, 3, 0, 0, 0, 0, 0, 0, 0, 105, 110, 116]
@[go_sem] theorem Ybaf.op3_100 (name : String) (x : Int) (w : World) : (FmtStop.operand name false 100 false (.iface 3 (.int .i64 x))).run Ybaf.prog w = .ok (Ybaf.shape3, Go.Extern.Stop.digits 8 (x % 2 ^ 64).toNat) w := by kernel_rfl
@[go_sem] theorem Ybaf.op3_100w (name : String) (x : Int) (w : World) : (FmtStop.operand name true 100 false (.iface 3 (.int .i64 x))).run Ybaf.prog w = .ok (Ybaf.shape3, Go.Extern.Stop.digits 8 (x % 2 ^ 64).toNat) w := by kernel_rfl
def Ybaf.shape22 : List UInt8 := [9, 6, 0, 0, 0, 0, 0, 0, 0, 117, 105, 110, 116, 54, 52]
@[go_sem] theorem Ybaf.op22_100 (name : String) (x : Int) (w : World) : (FmtStop.operand name false 100 false (.iface 22 (.int .u64 x))).run Ybaf.prog w = .ok (Ybaf.shape22, Go.Extern.Stop.digits 8 (x % 2 ^ 64).toNat) w := by kernel_rfl
@[go_sem] theorem Ybaf.op22_100w (name : String) (x : Int) (w : World) : (FmtStop.operand name true 100 false (.iface 22 (.int .u64 x))).run Ybaf.prog w = .ok (Ybaf.shape22, Go.Extern.Stop.digits 8 (x % 2 ^ 64).toNat) w := by kernel_rfl
def Ybaf.shape9 : List UInt8 := [12, 6, 0, 0, 0, 0, 0, 0, 0, 115, 116, 114, 105, 110, 103]
@[go_sem] theorem Ybaf.op9_115 (name : String) (x : ByteArray) (w : World) : (FmtStop.operand name false 115 false (.iface 9 (.string x))).run Ybaf.prog w = .ok (Ybaf.shape9, FmtStop.pack x.data.toList) w := by kernel_rfl
@[go_sem] theorem Ybaf.op9_115w (name : String) (x : ByteArray) (w : World) : (FmtStop.operand name true 115 false (.iface 9 (.string x))).run Ybaf.prog w = .ok (Ybaf.shape9, FmtStop.pack x.data.toList) w := by kernel_rfl

@[go_sem] theorem Ybaf.ptr59 (w : World) : (FmtStop.ptrTo "errors.errorString").run Ybaf.prog w = .ok 59 w := by kernel_rfl
@[go_sem] theorem Ybaf.elem59 (w : World) : (elemOf 59).run Ybaf.prog w = .ok 61 w := by kernel_rfl
theorem Ybaf.own : ownKnob Ybaf.prog.godebug = none := by kernel_rfl
end Go.Proofs
