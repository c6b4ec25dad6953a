/- Closed facts on fmt.Sprintf at this dump: what the walk asks of it. -/
import Derived.Test.YtiicdalodfjgaaaGreatFmtProg
import Derived.Stop.CallBack
import Derived.Stop.IfaceNil
import GoSem.ClaimData
import Derived.KernelRfl
namespace Go.Proofs
open Go.Extern.Stop Go.Stop Go.Extern
@[go_sem] theorem Tryz.call35 (args : Array Value) (w : World) : (callFunc 35 args).run Tryz.prog w = ((FmtStop.sprintf #[9, 158] #[9] args).run Tryz.prog w).andThen fun v w' => .ok (.value v) w' :=
  run_callFunc_extern Tryz.func35 (by kernel_rfl) (by kernel_rfl) (by kernel_rfl) (by kernel_rfl) args w
@[go_sem] theorem Tryz.guard (name : String) (w : World) : (FmtStop.guard name).run Tryz.prog w = .ok () w := by kernel_rfl
@[go_sem] theorem Tryz.fa : FmtStop.printed? ⟨#[67, 111, 117, 108, 100, 110, 39, 116, 32, 108, 101, 120, 32, 110, 117, 109, 98, 101, 114, 44, 32, 95, 32, 110, 111, 116, 32, 97, 108, 108, 111, 119, 101, 100, 32, 97, 102, 116, 101, 114, 32, 108, 101, 97, 100, 105, 110, 103, 32, 48]⟩ 0 = some [] := by kernel_rfl
@[go_sem] theorem Tryz.fb : FmtStop.printed? ⟨#[67, 111, 117, 108, 100, 110, 39, 116, 32, 108, 101, 120, 32, 110, 117, 109, 98, 101, 114, 44, 32, 106, 117, 110, 107, 32, 97, 102, 116, 101, 114, 32, 39, 95, 39, 58, 32, 37, 118]⟩ 1 = some [(0, 118, false)] := by kernel_rfl
@[go_sem] theorem Tryz.fc : FmtStop.printed? ⟨#[67, 111, 117, 108, 100, 110, 39, 116, 32, 108, 101, 120, 32, 110, 117, 109, 98, 101, 114, 44, 32, 106, 117, 110, 107, 32, 97, 102, 116, 101, 114, 32, 100, 101, 99, 105, 109, 97, 108, 32, 112, 111, 105, 110, 116, 58, 32, 37, 118]⟩ 1 = some [(0, 118, false)] := by kernel_rfl
@[go_sem] theorem Tryz.fd : FmtStop.printed? ⟨#[67, 111, 117, 108, 100, 110, 39, 116, 32, 108, 101, 120, 32, 110, 117, 109, 98, 101, 114, 44, 32, 106, 117, 110, 107, 32, 97, 102, 116, 101, 114, 32, 39, 69, 39, 58, 32, 37, 118]⟩ 1 = some [(0, 118, false)] := by kernel_rfl
@[go_sem] theorem Tryz.fe : FmtStop.printed? ⟨#[67, 111, 117, 108, 100, 110, 39, 116, 32, 108, 101, 120, 32, 110, 117, 109, 98, 101, 114, 44, 32, 106, 117, 110, 107, 32, 97, 102, 116, 101, 114, 32, 101, 120, 112, 111, 110, 101, 110, 116, 32, 115, 105, 103, 110, 58, 32, 37, 118]⟩ 1 = some [(0, 118, false)] := by kernel_rfl
@[go_sem] theorem Tryz.ff : FmtStop.printed? ⟨#[67, 111, 117, 108, 100, 110, 39, 116, 32, 108, 101, 120, 32, 118, 101, 114, 98, 97, 116, 105, 109, 32, 115, 116, 114, 105, 110, 103, 44, 32, 106, 117, 110, 107, 32, 97, 102, 116, 101, 114, 32, 39, 64, 39, 58, 32, 37, 118]⟩ 1 = some [(0, 118, false)] := by kernel_rfl
@[go_sem] theorem Tryz.fg : FmtStop.printed? ⟨#[67, 111, 117, 108, 100, 32, 110, 111, 116, 32, 108, 101, 120, 32, 116, 104, 101, 32, 99, 104, 97, 114, 97, 99, 116, 101, 114, 32, 37, 115]⟩ 1 = some [(0, 115, false)] := by kernel_rfl
def Tryz.shape21 : List UInt8 := [4, 5, 0, 0, 0, 0, 0, 0, 0, 105, 110, 116, 51, 50]
@[go_sem] theorem Tryz.op21_118 (name : String) (x : Int) (w : World) : (FmtStop.operand name false 118 false (.iface 21 (.int .i32 x))).run Tryz.prog w = .ok (Tryz.shape21, Go.Extern.Stop.digits 8 (x % 2 ^ 64).toNat) w := by kernel_rfl
def Tryz.shape9 : List UInt8 := [12, 6, 0, 0, 0, 0, 0, 0, 0, 115, 116, 114, 105, 110, 103]
@[go_sem] theorem Tryz.op9_118 (name : String) (x : ByteArray) (w : World) : (FmtStop.operand name false 118 false (.iface 9 (.string x))).run Tryz.prog w = .ok (Tryz.shape9, FmtStop.pack x.data.toList) w := by kernel_rfl
@[go_sem] theorem Tryz.op9_115 (name : String) (x : ByteArray) (w : World) : (FmtStop.operand name false 115 false (.iface 9 (.string x))).run Tryz.prog w = .ok (Tryz.shape9, FmtStop.pack x.data.toList) w := by kernel_rfl
end Go.Proofs
