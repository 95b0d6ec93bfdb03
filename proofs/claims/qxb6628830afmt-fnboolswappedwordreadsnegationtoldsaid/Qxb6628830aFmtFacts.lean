/-
  The closed facts for a walk over fmt's two stopped fronts in this dump (after the guide's CheckFmt.lean). Each by the kernel's own evaluation.
-/
import Derived.Test.Qxb6628830aFmtRows
import Derived.Stop.CallBack
import Derived.Stop.IfaceNil
import GoSem.ClaimData
namespace Go.Proofs
open Go.Extern.Stop Go.Stop Go.Extern

@[go_sem] theorem Tryf.call18 (args : Array Value) (w : World) : (callFunc 18 args).run Tryf.prog w = ((FmtStop.sprintf #[9, 42] #[9] args).run Tryf.prog w).andThen fun v w' => .ok (.value v) w' :=
  run_callFunc_extern Tryf.func18 (by kernel_rfl) (by kernel_rfl) (by kernel_rfl) (by kernel_rfl) args w
@[go_sem] theorem Tryf.call21 (args : Array Value) (w : World) : (callFunc 21 args).run Tryf.prog w = ((FmtStop.errorf #[9, 42] #[27] args).run Tryf.prog w).andThen fun v w' => .ok (.value v) w' :=
  run_callFunc_extern Tryf.func21 (by kernel_rfl) (by kernel_rfl) (by kernel_rfl) (by kernel_rfl) args w
@[go_sem] theorem Tryf.guard (name : String) (w : World) : (FmtStop.guard name).run Tryf.prog w = .ok () w := by kernel_rfl

-- 'json: ..s, at byte ..d'
@[go_sem] theorem Tryf.fmt0 : FmtStop.printed? ⟨#[106, 115, 111, 110, 58, 32, 37, 115, 44, 32, 97, 116, 32, 98, 121, 116, 101, 32, 37, 100]⟩ 2 = some [(0, 115, false), (1, 100, false)] := by kernel_rfl
@[go_sem] theorem Tryf.fmt0r (w : World) : (FmtDoors.printed ⟨#[106, 115, 111, 110, 58, 32, 37, 115, 44, 32, 97, 116, 32, 98, 121, 116, 101, 32, 37, 100]⟩ 2).run Tryf.prog w = .ok [(0, 115, false), (1, 100, false)] w := by kernel_rfl
-- '..q where ..s was to come'
@[go_sem] theorem Tryf.fmt1 : FmtStop.printed? ⟨#[37, 113, 32, 119, 104, 101, 114, 101, 32, 37, 115, 32, 119, 97, 115, 32, 116, 111, 32, 99, 111, 109, 101]⟩ 2 = some [(0, 113, false), (1, 115, false)] := by kernel_rfl
@[go_sem] theorem Tryf.fmt1r (w : World) : (FmtDoors.printed ⟨#[37, 113, 32, 119, 104, 101, 114, 101, 32, 37, 115, 32, 119, 97, 115, 32, 116, 111, 32, 99, 111, 109, 101]⟩ 2).run Tryf.prog w = .ok [(0, 113, false), (1, 115, false)] w := by kernel_rfl

def Tryf.shape5 : List UInt8 := [6, 5, 0, 0, 0, 0, 0, 0, 0, 117, 105, 110, 116, 56]
def Tryf.shape9 : List UInt8 := [12, 6, 0, 0, 0, 0, 0, 0, 0, 115, 116, 114, 105, 110, 103]
def Tryf.shape3 : List UInt8 := [5, 3, 0, 0, 0, 0, 0, 0, 0, 105, 110, 116]
@[go_sem] theorem Tryf.op5_113 (name : String) (x : Int) (w : World) : (FmtStop.operand name false 113 false (.iface 5 (.int .u8 x))).run Tryf.prog w = .ok (Tryf.shape5, Go.Extern.Stop.digits 8 (x % 2 ^ 64).toNat) w := by kernel_rfl
@[go_sem] theorem Tryf.op9_115 (name : String) (x : ByteArray) (w : World) : (FmtStop.operand name false 115 false (.iface 9 (.string x))).run Tryf.prog w = .ok (Tryf.shape9, FmtStop.pack x.data.toList) w := by kernel_rfl
@[go_sem] theorem Tryf.op9_115w (name : String) (x : ByteArray) (w : World) : (FmtStop.operand name true 115 false (.iface 9 (.string x))).run Tryf.prog w = .ok (Tryf.shape9, FmtStop.pack x.data.toList) w := by kernel_rfl
@[go_sem] theorem Tryf.op3_100w (name : String) (x : Int) (w : World) : (FmtStop.operand name true 100 false (.iface 3 (.int .i64 x))).run Tryf.prog w = .ok (Tryf.shape3, Go.Extern.Stop.digits 8 (x % 2 ^ 64).toNat) w := by kernel_rfl
@[go_sem] theorem Tryf.ptr44 (w : World) : (FmtStop.ptrTo "errors.errorString").run Tryf.prog w = .ok 44 w := by kernel_rfl
@[go_sem] theorem Tryf.elem44 (w : World) : (elemOf 44).run Tryf.prog w = .ok 46 w := by kernel_rfl
end Go.Proofs
