/-
  THE CLOSED FACTS over fmt's two stopped fronts in this dump (fmt.errorf, function 10, which calls its operands' methods; fmt.Sprintf, function 12, plain): after the make of the kit's own Fmt texts, at this dump's numbers.
-/
import Derived.Test.YbulkdvskFmtRows
import Derived.Stop.CallBack
import Derived.Stop.IfaceNil
import GoSem.ClaimData
namespace Go.Proofs.YbulkdvskFmt
open Go.Extern.Stop Go.Stop Go.Extern

theorem call10 (args : Array Value) (w : World) : (callFunc 10 args).run Ybaf.prog w = (FmtCalls.errorf #[9, 47] #[30] args).run Ybaf.prog w :=
  run_callFunc_next Ybaf.func10 (by kernel_rfl) (by kernel_rfl) (by kernel_rfl) args w
theorem call12 (args : Array Value) (w : World) : (callFunc 12 args).run Ybaf.prog w = ((FmtStop.sprintf #[9, 47] #[9] args).run Ybaf.prog w).andThen fun v w' => .ok (.value v) w' :=
  run_callFunc_extern Ybaf.func12 (by kernel_rfl) (by kernel_rfl) (by kernel_rfl) (by kernel_rfl) args w
theorem guardAny (name : String) (w : World) : (FmtStop.guard name).run Ybaf.prog w = .ok () w := by kernel_rfl
theorem nextTurns : Extern.next FmtCalls.turnsRow = some (FmtCalls.begun #[] #[]) := by kernel_rfl
theorem nextReturned : Extern.next FmtCalls.returnedRow = some (FmtCalls.returned #[] #[]) := by kernel_rfl

/-! ### The formats -/
theorem fm0 (w : World) : (FmtDoors.printed ⟨#[37, 118, 58, 32, 116, 104, 101, 32, 111, 99, 116, 101, 116, 115, 32, 101, 110, 100, 32, 98, 101, 102, 111, 114, 101, 32, 105, 116, 115, 32, 108, 101, 110, 103, 116, 104]⟩ 1).run Ybaf.prog w = .ok [(0, 118, false)] w := by kernel_rfl
theorem fm1 (w : World) : (FmtDoors.printed ⟨#[37, 118, 58, 32, 105, 110, 100, 101, 102, 105, 110, 105, 116, 101, 32, 108, 101, 110, 103, 116, 104, 32, 111, 110, 32, 97, 32, 112, 114, 105, 109, 105, 116, 105, 118, 101, 32, 101, 108, 101, 109, 101, 110, 116]⟩ 1).run Ybaf.prog w = .ok [(0, 118, false)] w := by kernel_rfl
theorem fm2 (w : World) : (FmtDoors.printed ⟨#[37, 118, 58, 32, 108, 101, 110, 103, 116, 104, 32, 111, 99, 116, 101, 116, 32, 48, 120, 102, 102, 44, 32, 119, 104, 105, 99, 104, 32, 88, 46, 54, 57, 48, 32, 114, 101, 115, 101, 114, 118, 101, 115]⟩ 1).run Ybaf.prog w = .ok [(0, 118, false)] w := by kernel_rfl
theorem fm3 (w : World) : (FmtDoors.printed ⟨#[37, 118, 58, 32, 116, 104, 101, 32, 111, 99, 116, 101, 116, 115, 32, 101, 110, 100, 32, 105, 110, 115, 105, 100, 101, 32, 105, 116, 115, 32, 108, 101, 110, 103, 116, 104]⟩ 1).run Ybaf.prog w = .ok [(0, 118, false)] w := by kernel_rfl
theorem fm4 (w : World) : (FmtDoors.printed ⟨#[37, 118, 58, 32, 108, 101, 110, 103, 116, 104, 32, 100, 111, 101, 115, 32, 110, 111, 116, 32, 102, 105, 116, 32, 105, 110, 32, 54, 52, 32, 98, 105, 116, 115]⟩ 1).run Ybaf.prog w = .ok [(0, 118, false)] w := by kernel_rfl
theorem fm5 (w : World) : (FmtDoors.printed ⟨#[37, 118, 58, 32, 37, 119]⟩ 2).run Ybaf.prog w = .ok [(0, 118, false), (1, 119, false)] w := by kernel_rfl
theorem fm6 (w : World) : (FmtDoors.printed ⟨#[37, 118, 58, 32, 108, 101, 110, 103, 116, 104, 32, 37, 100, 32, 114, 117, 110, 115, 32, 112, 97, 115, 116, 32, 116, 104, 101, 32, 101, 110, 100, 32, 111, 102, 32, 105, 116, 115, 32, 99, 111, 110, 116, 97, 105, 110, 101, 114, 44, 32, 119, 104, 105, 99, 104, 32, 104, 97, 115, 32, 37, 100, 32, 111, 99, 116, 101, 116, 115, 32, 108, 101, 102, 116]⟩ 3).run Ybaf.prog w = .ok [(0, 118, false), (1, 100, false), (2, 100, false)] w := by kernel_rfl
theorem fm7 : FmtStop.printed? ⟨#[91, 85, 78, 73, 86, 69, 82, 83, 65, 76, 32, 37, 100, 93]⟩ 1 = some [(0, 100, false)] := by kernel_rfl
theorem fm8 : FmtStop.printed? ⟨#[91, 65, 80, 80, 76, 73, 67, 65, 84, 73, 79, 78, 32, 37, 100, 93]⟩ 1 = some [(0, 100, false)] := by kernel_rfl
theorem fm9 : FmtStop.printed? ⟨#[91, 80, 82, 73, 86, 65, 84, 69, 32, 37, 100, 93]⟩ 1 = some [(0, 100, false)] := by kernel_rfl
theorem fm10 : FmtStop.printed? ⟨#[91, 37, 100, 93]⟩ 1 = some [(0, 100, false)] := by kernel_rfl

/-! ### The operands -/
theorem act26 (name : String) (x : Value) (w : World) : (FmtCalls.act name true 118 false (.iface 26 x)).run Ybaf.prog w = .ok (.call false) w := by kernel_rfl
theorem isString26 (w : World) : (FmtDoors.textMethod 26 "String").run Ybaf.prog w = .ok true w := by kernel_rfl
theorem invokeString26 (x : Value) (w : World) : (invoke (.fn (.method "String") #[]) #[.iface 26 x]).run Ybaf.prog w = .ok (.enter 11 #[x]) w := by kernel_rfl
theorem str26 (w : World) : (typeStr 26).run Ybaf.prog w = .ok "ber.Tag" w := by kernel_rfl
theorem act43 (name : String) (x : Value) (w : World) : (FmtCalls.act name true 100 false (.iface 43 x)).run Ybaf.prog w = .ok (.closed true) w := by kernel_rfl
def shape43 : List UInt8 := [9, 6, 0, 0, 0, 0, 0, 0, 0, 117, 105, 110, 116, 54, 52]
theorem op43 (name : String) (x : Int) (w : World) : (FmtStop.operand name true 100 false (.iface 43 (.int .u64 x))).run Ybaf.prog w = .ok (shape43, Go.Extern.Stop.digits 8 (x % 2 ^ 64).toNat) w := by kernel_rfl
def shape24 : List UInt8 := [8, 6, 0, 0, 0, 0, 0, 0, 0, 117, 105, 110, 116, 51, 50]
theorem op24 (name : String) (x : Int) (w : World) : (FmtStop.operand name false 100 false (.iface 24 (.int .u32 x))).run Ybaf.prog w = .ok (shape24, Go.Extern.Stop.digits 8 (x % 2 ^ 64).toNat) w := by kernel_rfl
theorem act44 (name : String) (x : Value) (w : World) : (FmtCalls.act name true 119 false (.iface 44 x)).run Ybaf.prog w = .ok (.closed true) w := by kernel_rfl
theorem act48 (name : String) (x : Value) (w : World) : (FmtCalls.act name true 119 false (.iface 48 x)).run Ybaf.prog w = .ok (.closed true) w := by kernel_rfl
theorem isError44 (w : World) : (FmtDoors.textMethod 44 "Error").run Ybaf.prog w = .ok true w := by kernel_rfl
theorem isError48 (w : World) : (FmtDoors.textMethod 48 "Error").run Ybaf.prog w = .ok true w := by kernel_rfl
theorem ptr44 (w : World) : (FmtStop.ptrTo "errors.errorString").run Ybaf.prog w = .ok 44 w := by kernel_rfl
theorem elem44 (w : World) : (elemOf 44).run Ybaf.prog w = .ok 46 w := by kernel_rfl
theorem ptr48 (w : World) : (FmtStop.ptrTo "fmt.wrapError").run Ybaf.prog w = .ok 48 w := by kernel_rfl
theorem elem48 (w : World) : (elemOf 48).run Ybaf.prog w = .ok 66 w := by kernel_rfl
theorem op44 (name : String) (a : Addr) (s : ByteArray) (w : World) (hc : w.cell? a = some (.string s)) :
    (FmtStop.operand name true 119 false (.iface 44 (.pointer (some a)))).run Ybaf.prog w = .ok (14 :: FmtStop.pack "*errors.errorString".toUTF8.data.toList, s.data.toList) w := by
  have h1 : (typeStr 44).run Ybaf.prog w = .ok "*errors.errorString" w := by kernel_rfl
  have d2 : Ybaf.t44.desc = .pointer 46 := rfl
  have d3 : Ybaf.t46.desc = .named "errors.errorString" 45 := rfl
  simp [FmtStop.operand, h1, d2, d3, run_load, hc]
theorem op48 (name : String) (a : Addr) (s : ByteArray) (w : World) (hc : w.cell? a = some (.string s)) :
    (FmtStop.operand name true 119 false (.iface 48 (.pointer (some a)))).run Ybaf.prog w = .ok (14 :: FmtStop.pack "*fmt.wrapError".toUTF8.data.toList, s.data.toList) w := by
  have h1 : (typeStr 48).run Ybaf.prog w = .ok "*fmt.wrapError" w := by kernel_rfl
  have d2 : Ybaf.t48.desc = .pointer 66 := rfl
  have d3 : Ybaf.t66.desc = .named "fmt.wrapError" 65 := rfl
  simp [FmtStop.operand, h1, d2, d3, run_load, hc]
end Go.Proofs.YbulkdvskFmt
