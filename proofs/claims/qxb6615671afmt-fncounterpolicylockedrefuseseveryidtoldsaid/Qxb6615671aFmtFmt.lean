/-
  Closed facts on fmt's stopped front at this dump (after the guide's worked Label texts, turned to this program).
-/
import Derived.Test.Qxb6615671aFmtProg
import Derived.Stop.CallBack
import Derived.Stop.IfaceNil
import GoSem.ClaimData
namespace Go.Proofs.Qxb6615671aFmt
open Go.Extern.Stop Go.Stop Go.Extern

theorem Tryf.call22 (args : Array Value) (w : World) : (callFunc 22 args).run Tryf.prog w = ((FmtStop.sprintf #[9, 143] #[9] args).run Tryf.prog w).andThen fun v w' => .ok (.value v) w' :=
  run_callFunc_extern Tryf.func22 (by kernel_rfl) (by kernel_rfl) (by kernel_rfl) (by kernel_rfl) args w
theorem Tryf.guard (name : String) (w : World) : (FmtStop.guard name).run Tryf.prog w = .ok () w := by kernel_rfl

theorem Tryf.fmtA : FmtStop.printed? ⟨#[117, 110, 105, 113, 117, 101, 32, 105, 100, 32, 37, 113, 32, 105, 115, 32, 110, 111, 116, 32, 97, 32, 115, 101, 115, 115, 105, 111, 110, 32, 110, 117, 109, 98, 101, 114]⟩ 1 = some [(0, 113, false)] := by kernel_rfl
theorem Tryf.fmtAr (w : World) : (FmtDoors.printed ⟨#[117, 110, 105, 113, 117, 101, 32, 105, 100, 32, 37, 113, 32, 105, 115, 32, 110, 111, 116, 32, 97, 32, 115, 101, 115, 115, 105, 111, 110, 32, 110, 117, 109, 98, 101, 114]⟩ 1).run Tryf.prog w = .ok [(0, 113, false)] w := by kernel_rfl
theorem Tryf.fmtB : FmtStop.printed? ⟨#[117, 110, 105, 113, 117, 101, 32, 105, 100, 32, 37, 115, 32, 105, 115, 32, 114, 101, 118, 111, 107, 101, 100]⟩ 1 = some [(0, 115, false)] := by kernel_rfl
theorem Tryf.fmtBr (w : World) : (FmtDoors.printed ⟨#[117, 110, 105, 113, 117, 101, 32, 105, 100, 32, 37, 115, 32, 105, 115, 32, 114, 101, 118, 111, 107, 101, 100]⟩ 1).run Tryf.prog w = .ok [(0, 115, false)] w := by kernel_rfl
theorem Tryf.fmtC : FmtStop.printed? ⟨#[115, 101, 115, 115, 105, 111, 110, 32, 37, 100, 32, 105, 115, 32, 110, 111, 116, 32, 97, 109, 111, 110, 103, 32, 116, 104, 101, 32, 108, 97, 115, 116, 32, 37, 100, 32, 111, 102, 32, 116, 104, 101, 32, 37, 100, 32, 105, 115, 115, 117, 101, 100]⟩ 3 = some [(0, 100, false), (1, 100, false), (2, 100, false)] := by kernel_rfl
theorem Tryf.fmtCr (w : World) : (FmtDoors.printed ⟨#[115, 101, 115, 115, 105, 111, 110, 32, 37, 100, 32, 105, 115, 32, 110, 111, 116, 32, 97, 109, 111, 110, 103, 32, 116, 104, 101, 32, 108, 97, 115, 116, 32, 37, 100, 32, 111, 102, 32, 116, 104, 101, 32, 37, 100, 32, 105, 115, 115, 117, 101, 100]⟩ 3).run Tryf.prog w = .ok [(0, 100, false), (1, 100, false), (2, 100, false)] w := by kernel_rfl

def Tryf.shape9 : List UInt8 := [12, 6, 0, 0, 0, 0, 0, 0, 0, 115, 116, 114, 105, 110, 103]
theorem Tryf.op9_115 (name : String) (x : ByteArray) (w : World) : (FmtStop.operand name false 115 false (.iface 9 (.string x))).run Tryf.prog w = .ok (Tryf.shape9, FmtStop.pack x.data.toList) w := by kernel_rfl
theorem Tryf.op9_113 (name : String) (x : ByteArray) (w : World) : (FmtStop.operand name false 113 false (.iface 9 (.string x))).run Tryf.prog w = .ok (Tryf.shape9, FmtStop.pack x.data.toList) w := by kernel_rfl
def Tryf.shape2 : List UInt8 := [5, 5, 0, 0, 0, 0, 0, 0, 0, 105, 110, 116, 54, 52]
theorem Tryf.op2_100 (name : String) (x : Int) (w : World) : (FmtStop.operand name false 100 false (.iface 2 (.int .i64 x))).run Tryf.prog w = .ok (Tryf.shape2, Go.Extern.Stop.digits 8 (x % 2 ^ 64).toNat) w := by kernel_rfl
end Go.Proofs.Qxb6615671aFmt
