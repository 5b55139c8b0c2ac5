import Derived.Test.YbulkcgmwFmtDur4
import Derived.Stop.CallBack
import Derived.Stop.IfaceNil
import GoSem.ClaimData
namespace Go.Proofs.YbulkcgmwFmt.Du
open Go.Extern.Stop Go.Stop Go.Extern
set_option linter.unusedVariables false

/-! The closed facts of the stopped front of this program. -/
theorem call9 (args : Array Value) (w : World) : (callFunc 9 args).run Ybaf.prog w = (FmtCalls.errorf #[9, 43] #[35] args).run Ybaf.prog w :=
  run_callFunc_next Ybaf.func9 (by kernel_rfl) (by kernel_rfl) (by kernel_rfl) args w
theorem guard9 (name : String) (w : World) : (FmtStop.guard name).run Ybaf.prog w = .ok () w := by kernel_rfl
theorem nextTurns : Extern.next FmtCalls.turnsRow = some (FmtCalls.begun #[] #[]) := by kernel_rfl
theorem nextReturned : Extern.next FmtCalls.returnedRow = some (FmtCalls.returned #[] #[]) := by kernel_rfl
-- root: only mode %q has one
theorem fmt1 : FmtStop.printed? ⟨#[114, 111, 111, 116, 58, 32, 111, 110, 108, 121, 32, 109, 111, 100, 101, 32, 37, 113, 32, 104, 97, 115, 32, 111, 110, 101]⟩ 1 = some [(0, 113, false)] := by kernel_rfl
theorem fmt1r (w : World) : (FmtDoors.printed ⟨#[114, 111, 111, 116, 58, 32, 111, 110, 108, 121, 32, 109, 111, 100, 101, 32, 37, 113, 32, 104, 97, 115, 32, 111, 110, 101]⟩ 1).run Ybaf.prog w = .ok [(0, 113, false)] w := by kernel_rfl
-- tmin: only mode %q has one
theorem fmt2 : FmtStop.printed? ⟨#[116, 109, 105, 110, 58, 32, 111, 110, 108, 121, 32, 109, 111, 100, 101, 32, 37, 113, 32, 104, 97, 115, 32, 111, 110, 101]⟩ 1 = some [(0, 113, false)] := by kernel_rfl
theorem fmt2r (w : World) : (FmtDoors.printed ⟨#[116, 109, 105, 110, 58, 32, 111, 110, 108, 121, 32, 109, 111, 100, 101, 32, 37, 113, 32, 104, 97, 115, 32, 111, 110, 101]⟩ 1).run Ybaf.prog w = .ok [(0, 113, false)] w := by kernel_rfl
-- root: %q is not a member of the group
theorem fmt3 : FmtStop.printed? ⟨#[114, 111, 111, 116, 58, 32, 37, 113, 32, 105, 115, 32, 110, 111, 116, 32, 97, 32, 109, 101, 109, 98, 101, 114, 32, 111, 102, 32, 116, 104, 101, 32, 103, 114, 111, 117, 112]⟩ 1 = some [(0, 113, false)] := by kernel_rfl
theorem fmt3r (w : World) : (FmtDoors.printed ⟨#[114, 111, 111, 116, 58, 32, 37, 113, 32, 105, 115, 32, 110, 111, 116, 32, 97, 32, 109, 101, 109, 98, 101, 114, 32, 111, 102, 32, 116, 104, 101, 32, 103, 114, 111, 117, 112]⟩ 1).run Ybaf.prog w = .ok [(0, 113, false)] w := by kernel_rfl
-- tmin: %w
theorem fmt4 : FmtStop.printed? ⟨#[116, 109, 105, 110, 58, 32, 37, 119]⟩ 1 = some [(0, 119, false)] := by kernel_rfl
theorem fmt4r (w : World) : (FmtDoors.printed ⟨#[116, 109, 105, 110, 58, 32, 37, 119]⟩ 1).run Ybaf.prog w = .ok [(0, 119, false)] w := by kernel_rfl
-- tmin %v: must be from %v to tmax, the period, %v
theorem fmt5 : FmtStop.printed? ⟨#[116, 109, 105, 110, 32, 37, 118, 58, 32, 109, 117, 115, 116, 32, 98, 101, 32, 102, 114, 111, 109, 32, 37, 118, 32, 116, 111, 32, 116, 109, 97, 120, 44, 32, 116, 104, 101, 32, 112, 101, 114, 105, 111, 100, 44, 32, 37, 118]⟩ 3 = some [(0, 118, false), (1, 118, false), (2, 118, false)] := by kernel_rfl
theorem fmt5r (w : World) : (FmtDoors.printed ⟨#[116, 109, 105, 110, 32, 37, 118, 58, 32, 109, 117, 115, 116, 32, 98, 101, 32, 102, 114, 111, 109, 32, 37, 118, 32, 116, 111, 32, 116, 109, 97, 120, 44, 32, 116, 104, 101, 32, 112, 101, 114, 105, 111, 100, 44, 32, 37, 118]⟩ 3).run Ybaf.prog w = .ok [(0, 118, false), (1, 118, false), (2, 118, false)] w := by kernel_rfl
def shape24 : List UInt8 := [12, 10, 0, 0, 0, 0, 0, 0, 0, 116, 97, 99, 101, 116, 46, 77, 111, 100, 101]
theorem act24 (name : String) (x : Value) (w : World) : (FmtCalls.act name true 113 false (.iface 24 x)).run Ybaf.prog w = .ok (.closed true) w := by kernel_rfl
theorem op24 (name : String) (x : ByteArray) (w : World) : (FmtStop.operand name true 113 false (.iface 24 (.string x))).run Ybaf.prog w = .ok (shape24, FmtStop.pack x.data.toList) w := by kernel_rfl
def shape9 : List UInt8 := [12, 6, 0, 0, 0, 0, 0, 0, 0, 115, 116, 114, 105, 110, 103]
theorem act9 (name : String) (x : Value) (w : World) : (FmtCalls.act name true 113 false (.iface 9 x)).run Ybaf.prog w = .ok (.closed true) w := by kernel_rfl
theorem op9 (name : String) (x : ByteArray) (w : World) : (FmtStop.operand name true 113 false (.iface 9 (.string x))).run Ybaf.prog w = .ok (shape9, FmtStop.pack x.data.toList) w := by kernel_rfl
theorem act26 (name : String) (x : Value) (w : World) : (FmtCalls.act name true 118 false (.iface 26 x)).run Ybaf.prog w = .ok (.call false) w := by kernel_rfl
theorem invoke26 (x : Value) (w : World) : (invoke (.fn (.method "String") #[]) #[.iface 26 x]).run Ybaf.prog w = .ok (.enter 10 #[x]) w := by kernel_rfl
theorem str26 (w : World) : (typeStr 26).run Ybaf.prog w = .ok "time.Duration" w := by kernel_rfl
theorem act45 (name : String) (x : Value) (w : World) : (FmtCalls.act name true 119 false (.iface 45 x)).run Ybaf.prog w = .ok (.closed true) w := by kernel_rfl
theorem str45 (w : World) : (typeStr 45).run Ybaf.prog w = .ok "*errors.errorString" w := by kernel_rfl
theorem isError45 (w : World) : (FmtDoors.textMethod 45 "Error").run Ybaf.prog w = .ok true w := by kernel_rfl
theorem isError44 (w : World) : (FmtDoors.textMethod 44 "Error").run Ybaf.prog w = .ok true w := by kernel_rfl
theorem ptr45 (w : World) : (FmtStop.ptrTo "errors.errorString").run Ybaf.prog w = .ok 45 w := by kernel_rfl
theorem elem45 (w : World) : (elemOf 45).run Ybaf.prog w = .ok 47 w := by kernel_rfl
theorem ptr44 (w : World) : (FmtStop.ptrTo "fmt.wrapError").run Ybaf.prog w = .ok 44 w := by kernel_rfl
theorem elem44 (w : World) : (elemOf 44).run Ybaf.prog w = .ok 75 w := by kernel_rfl
def plain45 : List UInt8 := 14 :: FmtStop.pack "*errors.errorString".toUTF8.data.toList
theorem opPlain45 (name : String) (a : Addr) (s : ByteArray) (w : World) (hc : w.cell? a = some (.string s)) :
    (FmtStop.operand name true 119 false (.iface 45 (.pointer (some a)))).run Ybaf.prog w = .ok (plain45, s.data.toList) w := by
  have h1 : (typeStr 45).run Ybaf.prog w = .ok "*errors.errorString" w := by kernel_rfl
  have d2 : Ybaf.t45.desc = .pointer 47 := rfl
  have d3 : Ybaf.t47.desc = .named "errors.errorString" 46 := rfl
  simp [FmtStop.operand, h1, d2, d3, run_load, hc, plain45]

end Go.Proofs.YbulkcgmwFmt.Du
