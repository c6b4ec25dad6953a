/- Closed facts on fmt.Sprintf at this dump: what the walk asks of it. -/
import Derived.Test.YtiicdalodfjgaaaFmtProg
import Derived.Stop.CallBack
import Derived.Stop.IfaceNil
import GoSem.ClaimData
import Derived.KernelRfl
namespace Go.Proofs
open Go.Extern.Stop Go.Stop Go.Extern
@[go_sem] theorem Tryf.call18 (args : Array Value) (w : World) : (callFunc 18 args).run Tryf.prog w = ((FmtStop.sprintf #[9, 105] #[9] args).run Tryf.prog w).andThen fun v w' => .ok (.value v) w' :=
  run_callFunc_extern Tryf.func18 (by kernel_rfl) (by kernel_rfl) (by kernel_rfl) (by kernel_rfl) args w
@[go_sem] theorem Tryf.guard (name : String) (w : World) : (FmtStop.guard name).run Tryf.prog w = .ok () w := by kernel_rfl
@[go_sem] theorem Tryf.fmt0 (w : World) : (FmtDoors.printed ⟨#[85, 110, 105, 99, 111, 100, 101, 32, 101, 115, 99, 97, 112, 101, 32, 115, 101, 113, 117, 101, 110, 99, 101, 32, 119, 97, 115, 32, 109, 97, 108, 102, 111, 114, 109, 101, 100, 58, 32, 37, 115]⟩ 1).run Tryf.prog w = .ok [(0, 115, false)] w := by kernel_rfl
@[go_sem] theorem Tryf.fmt1 (w : World) : (FmtDoors.printed ⟨#[85, 110, 105, 99, 111, 100, 101, 32, 108, 111, 119, 32, 115, 117, 114, 114, 111, 103, 97, 116, 101, 32, 101, 115, 99, 97, 112, 101, 32, 115, 101, 113, 117, 101, 110, 99, 101, 32, 119, 97, 115, 32, 109, 97, 108, 102, 111, 114, 109, 101, 100, 58, 32, 37, 115]⟩ 1).run Tryf.prog w = .ok [(0, 115, false)] w := by kernel_rfl
@[go_sem] theorem Tryf.fmt2 (w : World) : (FmtDoors.printed ⟨#[85, 110, 107, 110, 111, 119, 110, 32, 101, 115, 99, 97, 112, 101, 32, 115, 101, 113, 117, 101, 110, 99, 101, 32, 105, 110, 32, 115, 116, 114, 105, 110, 103, 32, 108, 105, 116, 101, 114, 97, 108, 58, 32, 92, 37, 99]⟩ 1).run Tryf.prog w = .ok [(0, 99, false)] w := by kernel_rfl
@[go_sem] theorem Tryf.fmt0p : FmtStop.printed? ⟨#[85, 110, 105, 99, 111, 100, 101, 32, 101, 115, 99, 97, 112, 101, 32, 115, 101, 113, 117, 101, 110, 99, 101, 32, 119, 97, 115, 32, 109, 97, 108, 102, 111, 114, 109, 101, 100, 58, 32, 37, 115]⟩ 1 = some [(0, 115, false)] := by kernel_rfl
@[go_sem] theorem Tryf.fmt1p : FmtStop.printed? ⟨#[85, 110, 105, 99, 111, 100, 101, 32, 108, 111, 119, 32, 115, 117, 114, 114, 111, 103, 97, 116, 101, 32, 101, 115, 99, 97, 112, 101, 32, 115, 101, 113, 117, 101, 110, 99, 101, 32, 119, 97, 115, 32, 109, 97, 108, 102, 111, 114, 109, 101, 100, 58, 32, 37, 115]⟩ 1 = some [(0, 115, false)] := by kernel_rfl
@[go_sem] theorem Tryf.fmt2p : FmtStop.printed? ⟨#[85, 110, 107, 110, 111, 119, 110, 32, 101, 115, 99, 97, 112, 101, 32, 115, 101, 113, 117, 101, 110, 99, 101, 32, 105, 110, 32, 115, 116, 114, 105, 110, 103, 32, 108, 105, 116, 101, 114, 97, 108, 58, 32, 92, 37, 99]⟩ 1 = some [(0, 99, false)] := by kernel_rfl
def Tryf.shape21 : List UInt8 := [4, 5, 0, 0, 0, 0, 0, 0, 0, 105, 110, 116, 51, 50]
@[go_sem] theorem Tryf.op21_99 (name : String) (x : Int) (w : World) : (FmtStop.operand name false 99 false (.iface 21 (.int .i32 x))).run Tryf.prog w = .ok (Tryf.shape21, Go.Extern.Stop.digits 8 (x % 2 ^ 64).toNat) w := by kernel_rfl
def Tryf.shape9 : List UInt8 := [12, 6, 0, 0, 0, 0, 0, 0, 0, 115, 116, 114, 105, 110, 103]
@[go_sem] theorem Tryf.op9_115 (name : String) (x : ByteArray) (w : World) : (FmtStop.operand name false 115 false (.iface 9 (.string x))).run Tryf.prog w = .ok (Tryf.shape9, FmtStop.pack x.data.toList) w := by kernel_rfl
end Go.Proofs
