/- b5155aF: closed facts for a walk over fmt.errorf's stop, after the guide's Sentry texts (the numbers of this dump: 34: error; 62: pointer to errors.errorString, 64 its struct; 74: pointer to fmt.wrapError, 112 its struct; 9: string; functions 12: fmt.Errorf, 14: fmt.errorf). -/
import Derived.Test.YbulkdbsuFmtProg
import Derived.Stop.CallBack
import Derived.Stop.IfaceNil
import GoSem.ClaimData
namespace Go.Proofs.YbulkdbsuFmt
open Go.Extern.Stop Go.Stop Go.Extern

theorem call14 (args : Array Value) (w : World) : (callFunc 14 args).run Ybaf.prog w = ((FmtStop.errorf #[9, 73] #[34] args).run Ybaf.prog w).andThen fun v w' => .ok (.value v) w' :=
  run_callFunc_extern Ybaf.func14 (by kernel_rfl) (by kernel_rfl) (by kernel_rfl) (by kernel_rfl) args w
theorem guardF (name : String) (w : World) : (FmtStop.guard name).run Ybaf.prog w = .ok () w := by kernel_rfl

theorem fmt0 : FmtStop.printed? ⟨#[37, 119, 32, 37, 115, 58, 32, 37, 118]⟩ 3 = some [(0, 119, false), (1, 115, false), (2, 118, false)] := by kernel_rfl
theorem fmt0r (w : World) : (FmtDoors.printed ⟨#[37, 119, 32, 37, 115, 58, 32, 37, 118]⟩ 3).run Ybaf.prog w = .ok [(0, 119, false), (1, 115, false), (2, 118, false)] w := by kernel_rfl

def shape9 : List UInt8 := [12, 6, 0, 0, 0, 0, 0, 0, 0, 115, 116, 114, 105, 110, 103]
theorem op9_115w (name : String) (s : ByteArray) (w : World) : (FmtStop.operand name true 115 false (.iface 9 (.string s))).run Ybaf.prog w = .ok (shape9, FmtStop.pack s.data.toList) w := by kernel_rfl
theorem ptr62 (w : World) : (FmtStop.ptrTo "errors.errorString").run Ybaf.prog w = .ok 62 w := by kernel_rfl
theorem elem62 (w : World) : (elemOf 62).run Ybaf.prog w = .ok 64 w := by kernel_rfl
theorem isError62 (w : World) : (FmtDoors.textMethod 62 "Error").run Ybaf.prog w = .ok true w := by kernel_rfl
theorem ptr74 (w : World) : (FmtStop.ptrTo "fmt.wrapError").run Ybaf.prog w = .ok 74 w := by kernel_rfl
theorem elem74 (w : World) : (elemOf 74).run Ybaf.prog w = .ok 112 w := by kernel_rfl
theorem isError74 (w : World) : (FmtDoors.textMethod 74 "Error").run Ybaf.prog w = .ok true w := by kernel_rfl

/-- What opens an operand that is an error of errors.New's make. -/
def plain62 : List UInt8 := 14 :: FmtStop.pack (String.singleton '*' ++ "errors.errorString").toUTF8.data.toList
theorem typeStr62 (w : World) : (typeStr 62).run Ybaf.prog w = .ok (String.singleton '*' ++ "errors.errorString") w := by kernel_rfl
theorem opPlain62_118 (name : String) (a : Addr) (s : ByteArray) (w : World) (hc : w.cell? a = some (.string s)) :
    (FmtStop.operand name true 118 false (.iface 62 (.pointer (some a)))).run Ybaf.prog w = .ok (plain62, s.data.toList) w := by
  have h1 := typeStr62 w
  have d2 : Ybaf.t62.desc = .pointer 64 := rfl
  have d3 : Ybaf.t64.desc = .named "errors.errorString" 63 := rfl
  simp [FmtStop.operand, h1, d2, d3, run_load, hc, plain62]
theorem opPlain62_119 (name : String) (a : Addr) (s : ByteArray) (w : World) (hc : w.cell? a = some (.string s)) :
    (FmtStop.operand name true 119 false (.iface 62 (.pointer (some a)))).run Ybaf.prog w = .ok (plain62, s.data.toList) w := by
  have h1 := typeStr62 w
  have d2 : Ybaf.t62.desc = .pointer 64 := rfl
  have d3 : Ybaf.t64.desc = .named "errors.errorString" 63 := rfl
  simp [FmtStop.operand, h1, d2, d3, run_load, hc, plain62]
end Go.Proofs.YbulkdbsuFmt
