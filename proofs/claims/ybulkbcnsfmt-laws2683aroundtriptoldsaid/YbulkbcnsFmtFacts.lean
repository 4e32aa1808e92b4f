/-
  THE CLOSED FACTS FOR A WALK OVER fmt.Sprintf's STOP AT THIS PROGRAM (seat b2683aF): turned to this program's numbers after the kit's worked HexbadFmt.lean. Each by the kernel's own evaluation. Nothing here is trusted.
-/
import Derived.Test.YbulkbcnsFmtProg
import Derived.Stop.CallBack
import Derived.Stop.IfaceNil
import GoSem.ClaimData
import Derived.KernelRfl
namespace Go.Proofs.YbulkbcnsFmt
open Go.Extern.Stop Go.Stop Go.Extern

theorem call30 (args : Array Value) (w : World) : (callFunc 30 args).run Ybaf.prog w = (FmtCalls.sprintf #[9, 81] #[9] args).run Ybaf.prog w :=
  run_callFunc_next Ybaf.func30 (by kernel_rfl) (by kernel_rfl) (by kernel_rfl) args w
theorem guardOk (name : String) (w : World) : (FmtStop.guard name).run Ybaf.prog w = .ok () w := by kernel_rfl
theorem nextTurns : Extern.next FmtCalls.turnsRow = some (FmtCalls.begun #[] #[]) := by kernel_rfl
/-- The bytes of the format of 0 operand(s), number F0. -/
abbrev bsF0 : List UInt8 := [116, 104, 101, 32, 115, 116, 97, 109, 112, 32, 105, 115, 32, 101, 109, 112, 116, 121]
theorem fmtF0 : FmtStop.printed? ⟨#[116, 104, 101, 32, 115, 116, 97, 109, 112, 32, 105, 115, 32, 101, 109, 112, 116, 121]⟩ 0 = some [] := by kernel_rfl
/-- The bytes of the format of 3 operand(s), number F1. -/
abbrev bsF1 : List UInt8 := [97, 32, 37, 115, 32, 115, 116, 97, 109, 112, 32, 98, 101, 103, 105, 110, 115, 32, 119, 105, 116, 104, 32, 98, 121, 116, 101, 32, 37, 100, 44, 32, 110, 111, 116, 32, 37, 100]
theorem fmtF1 : FmtStop.printed? ⟨#[97, 32, 37, 115, 32, 115, 116, 97, 109, 112, 32, 98, 101, 103, 105, 110, 115, 32, 119, 105, 116, 104, 32, 98, 121, 116, 101, 32, 37, 100, 44, 32, 110, 111, 116, 32, 37, 100]⟩ 3 = some [(0, 115, false), (1, 100, false), (2, 100, false)] := by kernel_rfl
/-- The bytes of the format of 1 operand(s), number F2. -/
abbrev bsF2 : List UInt8 := [116, 104, 101, 32, 115, 116, 97, 109, 112, 32, 101, 110, 100, 115, 32, 105, 110, 115, 105, 100, 101, 32, 37, 115]
theorem fmtF2 : FmtStop.printed? ⟨#[116, 104, 101, 32, 115, 116, 97, 109, 112, 32, 101, 110, 100, 115, 32, 105, 110, 115, 105, 100, 101, 32, 37, 115]⟩ 1 = some [(0, 115, false)] := by kernel_rfl
/-- The bytes of the format of 1 operand(s), number F3. -/
abbrev bsF3 : List UInt8 := [37, 115, 32, 105, 115, 32, 97, 98, 111, 118, 101, 32, 50, 94, 54, 52, 32, 45, 32, 49]
theorem fmtF3 : FmtStop.printed? ⟨#[37, 115, 32, 105, 115, 32, 97, 98, 111, 118, 101, 32, 50, 94, 54, 52, 32, 45, 32, 49]⟩ 1 = some [(0, 115, false)] := by kernel_rfl
/-- The bytes of the format of 1 operand(s), number F4. -/
abbrev bsF4 : List UInt8 := [37, 115, 32, 105, 115, 32, 110, 111, 116, 32, 105, 110, 32, 105, 116, 115, 32, 115, 104, 111, 114, 116, 101, 115, 116, 32, 102, 111, 114, 109]
theorem fmtF4 : FmtStop.printed? ⟨#[37, 115, 32, 105, 115, 32, 110, 111, 116, 32, 105, 110, 32, 105, 116, 115, 32, 115, 104, 111, 114, 116, 101, 115, 116, 32, 102, 111, 114, 109]⟩ 1 = some [(0, 115, false)] := by kernel_rfl
/-- The bytes of the format of 2 operand(s), number F5. -/
abbrev bsF5 : List UInt8 := [116, 104, 101, 32, 115, 116, 97, 109, 112, 32, 105, 115, 32, 102, 111, 114, 32, 97, 32, 103, 114, 111, 117, 112, 32, 111, 102, 32, 37, 100, 32, 109, 101, 109, 98, 101, 114, 115, 44, 32, 110, 111, 116, 32, 37, 100]
theorem fmtF5 : FmtStop.printed? ⟨#[116, 104, 101, 32, 115, 116, 97, 109, 112, 32, 105, 115, 32, 102, 111, 114, 32, 97, 32, 103, 114, 111, 117, 112, 32, 111, 102, 32, 37, 100, 32, 109, 101, 109, 98, 101, 114, 115, 44, 32, 110, 111, 116, 32, 37, 100]⟩ 2 = some [(0, 100, false), (1, 100, false)] := by kernel_rfl
/-- The bytes of the format of 2 operand(s), number F6. -/
abbrev bsF6 : List UInt8 := [116, 104, 101, 32, 115, 116, 97, 109, 112, 39, 115, 32, 109, 101, 109, 98, 101, 114, 32, 108, 105, 115, 116, 32, 99, 104, 101, 99, 107, 32, 105, 115, 32, 37, 48, 56, 120, 44, 32, 110, 111, 116, 32, 37, 48, 56, 120, 58, 32, 105, 116, 115, 32, 103, 114, 111, 117, 112, 32, 108, 105, 115, 116, 115, 32, 111, 116, 104, 101, 114, 32, 109, 101, 109, 98, 101, 114, 115, 44, 32, 111, 114, 32, 108, 105, 115, 116, 115, 32, 116, 104, 101, 109, 32, 105, 110, 32, 97, 110, 111, 116, 104, 101, 114, 32, 111, 114, 100, 101, 114]
theorem fmtF6 : FmtStop.printed? ⟨#[116, 104, 101, 32, 115, 116, 97, 109, 112, 39, 115, 32, 109, 101, 109, 98, 101, 114, 32, 108, 105, 115, 116, 32, 99, 104, 101, 99, 107, 32, 105, 115, 32, 37, 48, 56, 120, 44, 32, 110, 111, 116, 32, 37, 48, 56, 120, 58, 32, 105, 116, 115, 32, 103, 114, 111, 117, 112, 32, 108, 105, 115, 116, 115, 32, 111, 116, 104, 101, 114, 32, 109, 101, 109, 98, 101, 114, 115, 44, 32, 111, 114, 32, 108, 105, 115, 116, 115, 32, 116, 104, 101, 109, 32, 105, 110, 32, 97, 110, 111, 116, 104, 101, 114, 32, 111, 114, 100, 101, 114]⟩ 2 = some [(0, 120, false), (1, 120, false)] := by kernel_rfl
def shape9 : List UInt8 := [12, 6, 0, 0, 0, 0, 0, 0, 0, 115, 116, 114, 105, 110, 103]
def shape5 : List UInt8 := [6, 5, 0, 0, 0, 0, 0, 0, 0, 117, 105, 110, 116, 56]
def shape3 : List UInt8 := [5, 3, 0, 0, 0, 0, 0, 0, 0, 105, 110, 116]
def shape36 : List UInt8 := [9, 6, 0, 0, 0, 0, 0, 0, 0, 117, 105, 110, 116, 54, 52]
def shape23 : List UInt8 := [8, 6, 0, 0, 0, 0, 0, 0, 0, 117, 105, 110, 116, 51, 50]
theorem act9_115 (name : String) (x : Value) (w : World) : (FmtCalls.act name false 115 false (.iface 9 x)).run Ybaf.prog w = .ok (.closed false) w := by kernel_rfl
theorem op9_115 (name : String) (s : ByteArray) (w : World) : (FmtStop.operand name false 115 false (.iface 9 (.string s))).run Ybaf.prog w = .ok (shape9, FmtStop.pack s.data.toList) w := by kernel_rfl
theorem act5_100 (name : String) (x : Value) (w : World) : (FmtCalls.act name false 100 false (.iface 5 x)).run Ybaf.prog w = .ok (.closed false) w := by kernel_rfl
theorem op5_100 (name : String) (x : Int) (w : World) : (FmtStop.operand name false 100 false (.iface 5 (.int .u8 x))).run Ybaf.prog w = .ok (shape5, Go.Extern.Stop.digits 8 (x % 2 ^ 64).toNat) w := by kernel_rfl
theorem act36_100 (name : String) (x : Value) (w : World) : (FmtCalls.act name false 100 false (.iface 36 x)).run Ybaf.prog w = .ok (.closed false) w := by kernel_rfl
theorem op36_100 (name : String) (x : Int) (w : World) : (FmtStop.operand name false 100 false (.iface 36 (.int .u64 x))).run Ybaf.prog w = .ok (shape36, Go.Extern.Stop.digits 8 (x % 2 ^ 64).toNat) w := by kernel_rfl
theorem act3_100 (name : String) (x : Value) (w : World) : (FmtCalls.act name false 100 false (.iface 3 x)).run Ybaf.prog w = .ok (.closed false) w := by kernel_rfl
theorem op3_100 (name : String) (x : Int) (w : World) : (FmtStop.operand name false 100 false (.iface 3 (.int .i64 x))).run Ybaf.prog w = .ok (shape3, Go.Extern.Stop.digits 8 (x % 2 ^ 64).toNat) w := by kernel_rfl
theorem act23_120 (name : String) (x : Value) (w : World) : (FmtCalls.act name false 120 false (.iface 23 x)).run Ybaf.prog w = .ok (.closed false) w := by kernel_rfl
theorem op23_120 (name : String) (x : Int) (w : World) : (FmtStop.operand name false 120 false (.iface 23 (.int .u32 x))).run Ybaf.prog w = .ok (shape23, Go.Extern.Stop.digits 8 (x % 2 ^ 64).toNat) w := by kernel_rfl
end Go.Proofs.YbulkbcnsFmt
