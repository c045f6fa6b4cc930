/-
  THE CLOSED FACTS OVER fmt's STOPPED FRONT at this dump (after the guide's NameFmt texts).
-/
import Derived.Test.Qxb6616388aFmtW3
import Derived.Stop.CallBack
import Derived.Stop.IfaceNil
import Derived.Stop.Told
import Derived.Stop.Texts
import GoSem.ClaimData
namespace Go.Proofs.Qxb6616388aFmt
open Go.Extern.Stop Go.Stop Go.Extern Go.Kit Go.RowKit
set_option maxRecDepth 100000

theorem call21 (args : Array Value) (w : World) : (callFunc 21 args).run Tryf.prog w = ((FmtStop.errorf #[9, 47] #[30] args).run Tryf.prog w).andThen fun v w' => .ok (.value v) w' :=
  run_callFunc_extern Tryf.func21 (by kernel_rfl) (by kernel_rfl) (by kernel_rfl) (by kernel_rfl) args w
theorem fmtGuard (name : String) (w : World) : (FmtStop.guard name).run Tryf.prog w = .ok () w := by kernel_rfl
theorem kind_p : FmtStop.printed? ⟨#[97, 110, 116, 101, 99, 101, 100, 101, 110, 116, 58, 32, 109, 117, 116, 101, 120, 32, 109, 101, 115, 115, 97, 103, 101, 32, 111, 102, 32, 117, 110, 107, 110, 111, 119, 110, 32, 107, 105, 110, 100, 32, 37, 100]⟩ 1 = some [(0, 100, false)] := by kernel_rfl
theorem kind_r (w : World) : (FmtDoors.printed ⟨#[97, 110, 116, 101, 99, 101, 100, 101, 110, 116, 58, 32, 109, 117, 116, 101, 120, 32, 109, 101, 115, 115, 97, 103, 101, 32, 111, 102, 32, 117, 110, 107, 110, 111, 119, 110, 32, 107, 105, 110, 100, 32, 37, 100]⟩ 1).run Tryf.prog w = .ok [(0, 100, false)] w := by kernel_rfl
theorem kind_p0 : FmtStop.printed? ⟨#[97, 110, 116, 101, 99, 101, 100, 101, 110, 116, 58, 32, 109, 117, 116, 101, 120, 32, 109, 101, 115, 115, 97, 103, 101, 32, 111, 102, 32, 117, 110, 107, 110, 111, 119, 110, 32, 107, 105, 110, 100, 32, 37, 100]⟩ 0 = some [] := by kernel_rfl
theorem kind_r0 (w : World) : (FmtDoors.printed ⟨#[97, 110, 116, 101, 99, 101, 100, 101, 110, 116, 58, 32, 109, 117, 116, 101, 120, 32, 109, 101, 115, 115, 97, 103, 101, 32, 111, 102, 32, 117, 110, 107, 110, 111, 119, 110, 32, 107, 105, 110, 100, 32, 37, 100]⟩ 0).run Tryf.prog w = .ok [] w := by kernel_rfl
theorem empty_p : FmtStop.printed? ⟨#[101, 109, 112, 116, 121, 32, 37, 115]⟩ 1 = some [(0, 115, false)] := by kernel_rfl
theorem empty_r (w : World) : (FmtDoors.printed ⟨#[101, 109, 112, 116, 121, 32, 37, 115]⟩ 1).run Tryf.prog w = .ok [(0, 115, false)] w := by kernel_rfl
theorem empty_p0 : FmtStop.printed? ⟨#[101, 109, 112, 116, 121, 32, 37, 115]⟩ 0 = some [] := by kernel_rfl
theorem empty_r0 (w : World) : (FmtDoors.printed ⟨#[101, 109, 112, 116, 121, 32, 37, 115]⟩ 0).run Tryf.prog w = .ok [] w := by kernel_rfl
theorem notv_p : FmtStop.printed? ⟨#[37, 115, 32, 37, 115, 32, 105, 115, 32, 110, 111, 116, 32, 118, 97, 108, 105, 100, 32, 85, 84, 70, 45, 56]⟩ 2 = some [(0, 115, false), (1, 115, false)] := by kernel_rfl
theorem notv_r (w : World) : (FmtDoors.printed ⟨#[37, 115, 32, 37, 115, 32, 105, 115, 32, 110, 111, 116, 32, 118, 97, 108, 105, 100, 32, 85, 84, 70, 45, 56]⟩ 2).run Tryf.prog w = .ok [(0, 115, false), (1, 115, false)] w := by kernel_rfl
theorem notv_p0 : FmtStop.printed? ⟨#[37, 115, 32, 37, 115, 32, 105, 115, 32, 110, 111, 116, 32, 118, 97, 108, 105, 100, 32, 85, 84, 70, 45, 56]⟩ 0 = some [] := by kernel_rfl
theorem notv_r0 (w : World) : (FmtDoors.printed ⟨#[37, 115, 32, 37, 115, 32, 105, 115, 32, 110, 111, 116, 32, 118, 97, 108, 105, 100, 32, 85, 84, 70, 45, 56]⟩ 0).run Tryf.prog w = .ok [] w := by kernel_rfl
theorem wrap_p : FmtStop.printed? ⟨#[97, 110, 116, 101, 99, 101, 100, 101, 110, 116, 58, 32, 37, 119]⟩ 1 = some [(0, 119, false)] := by kernel_rfl
theorem wrap_r (w : World) : (FmtDoors.printed ⟨#[97, 110, 116, 101, 99, 101, 100, 101, 110, 116, 58, 32, 37, 119]⟩ 1).run Tryf.prog w = .ok [(0, 119, false)] w := by kernel_rfl
theorem wrap_p0 : FmtStop.printed? ⟨#[97, 110, 116, 101, 99, 101, 100, 101, 110, 116, 58, 32, 37, 119]⟩ 0 = some [] := by kernel_rfl
theorem wrap_r0 (w : World) : (FmtDoors.printed ⟨#[97, 110, 116, 101, 99, 101, 100, 101, 110, 116, 58, 32, 37, 119]⟩ 0).run Tryf.prog w = .ok [] w := by kernel_rfl
theorem send_p : FmtStop.printed? ⟨#[37, 119, 44, 32, 116, 104, 101, 32, 115, 101, 110, 100, 101, 114, 32, 111, 102, 32, 97, 32, 37, 115, 32, 109, 101, 115, 115, 97, 103, 101]⟩ 2 = some [(0, 119, false), (1, 115, false)] := by kernel_rfl
theorem send_r (w : World) : (FmtDoors.printed ⟨#[37, 119, 44, 32, 116, 104, 101, 32, 115, 101, 110, 100, 101, 114, 32, 111, 102, 32, 97, 32, 37, 115, 32, 109, 101, 115, 115, 97, 103, 101]⟩ 2).run Tryf.prog w = .ok [(0, 119, false), (1, 115, false)] w := by kernel_rfl
theorem send_p0 : FmtStop.printed? ⟨#[37, 119, 44, 32, 116, 104, 101, 32, 115, 101, 110, 100, 101, 114, 32, 111, 102, 32, 97, 32, 37, 115, 32, 109, 101, 115, 115, 97, 103, 101]⟩ 0 = some [] := by kernel_rfl
theorem send_r0 (w : World) : (FmtDoors.printed ⟨#[37, 119, 44, 32, 116, 104, 101, 32, 115, 101, 110, 100, 101, 114, 32, 111, 102, 32, 97, 32, 37, 115, 32, 109, 101, 115, 115, 97, 103, 101]⟩ 0).run Tryf.prog w = .ok [] w := by kernel_rfl
theorem recv_p : FmtStop.printed? ⟨#[37, 119, 44, 32, 116, 104, 101, 32, 114, 101, 99, 101, 105, 118, 101, 114, 32, 111, 102, 32, 97, 32, 37, 115, 32, 109, 101, 115, 115, 97, 103, 101]⟩ 2 = some [(0, 119, false), (1, 115, false)] := by kernel_rfl
theorem recv_r (w : World) : (FmtDoors.printed ⟨#[37, 119, 44, 32, 116, 104, 101, 32, 114, 101, 99, 101, 105, 118, 101, 114, 32, 111, 102, 32, 97, 32, 37, 115, 32, 109, 101, 115, 115, 97, 103, 101]⟩ 2).run Tryf.prog w = .ok [(0, 119, false), (1, 115, false)] w := by kernel_rfl
theorem recv_p0 : FmtStop.printed? ⟨#[37, 119, 44, 32, 116, 104, 101, 32, 114, 101, 99, 101, 105, 118, 101, 114, 32, 111, 102, 32, 97, 32, 37, 115, 32, 109, 101, 115, 115, 97, 103, 101]⟩ 0 = some [] := by kernel_rfl
theorem recv_r0 (w : World) : (FmtDoors.printed ⟨#[37, 119, 44, 32, 116, 104, 101, 32, 114, 101, 99, 101, 105, 118, 101, 114, 32, 111, 102, 32, 97, 32, 37, 115, 32, 109, 101, 115, 115, 97, 103, 101]⟩ 0).run Tryf.prog w = .ok [] w := by kernel_rfl

def shape3 : List UInt8 := [5, 3, 0, 0, 0, 0, 0, 0, 0, 105, 110, 116]
def shape9 : List UInt8 := [12, 6, 0, 0, 0, 0, 0, 0, 0, 115, 116, 114, 105, 110, 103]
theorem op3_100w (name : String) (x : Int) (w : World) : (FmtStop.operand name true 100 false (.iface 3 (.int .i64 x))).run Tryf.prog w = .ok (shape3, Go.Extern.Stop.digits 8 (x % 2 ^ 64).toNat) w := by kernel_rfl
theorem op9_115w (name : String) (x : ByteArray) (w : World) : (FmtStop.operand name true 115 false (.iface 9 (.string x))).run Tryf.prog w = .ok (shape9, FmtStop.pack x.data.toList) w := by kernel_rfl
theorem ptr51 (w : World) : (FmtStop.ptrTo "errors.errorString").run Tryf.prog w = .ok 51 w := by kernel_rfl
theorem elem51 (w : World) : (elemOf 51).run Tryf.prog w = .ok 53 w := by kernel_rfl
theorem isError51 (w : World) : (FmtDoors.textMethod 51 "Error").run Tryf.prog w = .ok true w := by kernel_rfl
theorem ptr48 (w : World) : (FmtStop.ptrTo "fmt.wrapError").run Tryf.prog w = .ok 48 w := by kernel_rfl
theorem elem48 (w : World) : (elemOf 48).run Tryf.prog w = .ok 97 w := by kernel_rfl
theorem isError48 (w : World) : (FmtDoors.textMethod 48 "Error").run Tryf.prog w = .ok true w := by kernel_rfl
def nameOf (P : Program) (t : TypeId) : String := (P.typeName? 3 t).getD "none"
def plainOf (P : Program) (t : TypeId) : List UInt8 := 14 :: FmtStop.pack (nameOf P t).toUTF8.data.toList
theorem opPlain51_119w (name : String) (a : Addr) (s : ByteArray) (w : World) (hc : w.cell? a = some (.string s)) :
    (FmtStop.operand name true 119 false (.iface 51 (.pointer (some a)))).run Tryf.prog w = .ok (plainOf Tryf.prog 51, s.data.toList) w := by
  have h1 : (typeStr 51).run Tryf.prog w = .ok (nameOf Tryf.prog 51) w := by kernel_rfl
  have d2 : Tryf.t51.desc = .pointer 53 := rfl
  have d3 : Tryf.t53.desc = .named "errors.errorString" 52 := rfl
  simp [FmtStop.operand, h1, d2, d3, run_load, hc, plainOf]
theorem opPlain48_119w (name : String) (a : Addr) (s : ByteArray) (w : World) (hc : w.cell? a = some (.string s)) :
    (FmtStop.operand name true 119 false (.iface 48 (.pointer (some a)))).run Tryf.prog w = .ok (plainOf Tryf.prog 48, s.data.toList) w := by
  have h1 : (typeStr 48).run Tryf.prog w = .ok (nameOf Tryf.prog 48) w := by kernel_rfl
  have d2 : Tryf.t48.desc = .pointer 97 := rfl
  have d3 : Tryf.t97.desc = .named "fmt.wrapError" 96 := rfl
  simp [FmtStop.operand, h1, d2, d3, run_load, hc, plainOf]

end Go.Proofs.Qxb6616388aFmt
