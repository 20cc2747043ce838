/-
  Closed facts for the walks over fmt.Sprintf, stopped: each by the kernel's own evaluation.
-/
import Derived.Test.Qxb6608912aFmtProg
import Derived.Stop.CallBack
import Derived.Stop.IfaceNil
import GoSem.ClaimData
namespace Go.Proofs.Qxb6608912aFmt
open Go.Extern.Stop Go.Stop Go.Extern

theorem call12 (args : Array Value) (w : World) : (callFunc 12 args).run Tryf.prog w = ((FmtStop.sprintf #[9, 49] #[9] args).run Tryf.prog w).andThen fun v w' => .ok (.value v) w' :=
  run_callFunc_extern Tryf.func12 (by kernel_rfl) (by kernel_rfl) (by kernel_rfl) (by kernel_rfl) args w
theorem guard (name : String) (w : World) : (FmtStop.guard name).run Tryf.prog w = .ok () w := by kernel_rfl

-- pcr and a decimal
theorem fmtP : FmtStop.printed? ⟨#[112, 99, 114, 37, 100]⟩ 1 = some [(0, 100, false)] := by kernel_rfl
theorem fmtPr (w : World) : (FmtDoors.printed ⟨#[112, 99, 114, 37, 100]⟩ 1).run Tryf.prog w = .ok [(0, 100, false)] w := by kernel_rfl
-- rtmr and a decimal
theorem fmtR : FmtStop.printed? ⟨#[114, 116, 109, 114, 37, 100]⟩ 1 = some [(0, 100, false)] := by kernel_rfl
theorem fmtRr (w : World) : (FmtDoors.printed ⟨#[114, 116, 109, 114, 37, 100]⟩ 1).run Tryf.prog w = .ok [(0, 100, false)] w := by kernel_rfl
-- nv0x and eight hex digits
theorem fmtN : FmtStop.printed? ⟨#[110, 118, 48, 120, 37, 48, 56, 120]⟩ 1 = some [(0, 120, false)] := by kernel_rfl
theorem fmtNr (w : World) : (FmtDoors.printed ⟨#[110, 118, 48, 120, 37, 48, 56, 120]⟩ 1).run Tryf.prog w = .ok [(0, 120, false)] w := by kernel_rfl
-- register(kind .., index ..)
theorem fmtX : FmtStop.printed? ⟨#[114, 101, 103, 105, 115, 116, 101, 114, 40, 107, 105, 110, 100, 32, 37, 100, 44, 32, 105, 110, 100, 101, 120, 32, 37, 100, 41]⟩ 2 = some [(0, 100, false), (1, 100, false)] := by kernel_rfl
theorem fmtXr (w : World) : (FmtDoors.printed ⟨#[114, 101, 103, 105, 115, 116, 101, 114, 40, 107, 105, 110, 100, 32, 37, 100, 44, 32, 105, 110, 100, 101, 120, 32, 37, 100, 41]⟩ 2).run Tryf.prog w = .ok [(0, 100, false), (1, 100, false)] w := by kernel_rfl

/-- How fmt is told of a uint32. -/
def shape22 : List UInt8 := [8, 6, 0, 0, 0, 0, 0, 0, 0, 117, 105, 110, 116, 51, 50]
theorem op22d (name : String) (x : Int) (w : World) : (FmtStop.operand name false 100 false (.iface 22 (.int .u32 x))).run Tryf.prog w = .ok (shape22, Go.Extern.Stop.digits 8 (x % 2 ^ 64).toNat) w := by kernel_rfl
theorem op22x (name : String) (x : Int) (w : World) : (FmtStop.operand name false 120 false (.iface 22 (.int .u32 x))).run Tryf.prog w = .ok (shape22, Go.Extern.Stop.digits 8 (x % 2 ^ 64).toNat) w := by kernel_rfl
/-- How fmt is told of a RegisterKind. -/
def shape29 : List UInt8 := [6, 16, 0, 0, 0, 0, 0, 0, 0, 101, 105, 114, 46, 82, 101, 103, 105, 115, 116, 101, 114, 75, 105, 110, 100]
theorem op29d (name : String) (x : Int) (w : World) : (FmtStop.operand name false 100 false (.iface 29 (.int .u8 x))).run Tryf.prog w = .ok (shape29, Go.Extern.Stop.digits 8 (x % 2 ^ 64).toNat) w := by kernel_rfl
end Go.Proofs.Qxb6608912aFmt
