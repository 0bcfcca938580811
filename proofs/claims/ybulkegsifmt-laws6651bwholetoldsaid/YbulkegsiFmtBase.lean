/-
  DERIVED. THE CLOSED FACTS FOR A WALK OVER fmt's STOPPED FRONTS of this seat (typed by hand after the guide's worked examples: no translator here).
-/
import Derived.Test.YbulkegsiFmtCards
import Derived.Stop.CallBack
import Derived.Stop.IfaceNil
import GoSem.ClaimData
import Derived.WalkKit
import Derived.WalkSpells
namespace Go.Proofs.YbulkegsiFmt
open Go.Extern.Stop Go.Stop Go.Extern Go.RowKit
set_option linter.unusedVariables false
set_option linter.unusedSimpArgs false

theorem call12 (args : Array Value) (w : World) : (callFunc 12 args).run Ybaf.prog w = (FmtCalls.sprintf #[9, 57] #[9] args).run Ybaf.prog w :=
  run_callFunc_next Ybaf.func12 (by kernel_rfl) (by kernel_rfl) (by kernel_rfl) args w
theorem call20 (args : Array Value) (w : World) : (callFunc 20 args).run Ybaf.prog w = (FmtCalls.errorf #[9, 57] #[34] args).run Ybaf.prog w :=
  run_callFunc_next Ybaf.func20 (by kernel_rfl) (by kernel_rfl) (by kernel_rfl) args w
theorem fguard (name : String) (w : World) : (FmtStop.guard name).run Ybaf.prog w = .ok () w := by kernel_rfl
theorem nextTurns : Extern.next FmtCalls.turnsRow = some (FmtCalls.begun #[] #[]) := by kernel_rfl
theorem nextReturned : Extern.next FmtCalls.returnedRow = some (FmtCalls.returned #[] #[]) := by kernel_rfl

theorem fmt0 : FmtStop.printed? ⟨#[91, 37, 100, 93]⟩ 1 = some [(0, 100, false)] := by kernel_rfl
theorem fmt0r (w : World) : (FmtDoors.printed ⟨#[91, 37, 100, 93]⟩ 1).run Ybaf.prog w = .ok [(0, 100, false)] w := by kernel_rfl
theorem fmt1 : FmtStop.printed? ⟨#[116, 97, 103, 32, 37, 35, 48, 50, 120]⟩ 1 = some [(0, 120, true)] := by kernel_rfl
theorem fmt1r (w : World) : (FmtDoors.printed ⟨#[116, 97, 103, 32, 37, 35, 48, 50, 120]⟩ 1).run Ybaf.prog w = .ok [(0, 120, true)] w := by kernel_rfl
theorem fmt2 : FmtStop.printed? ⟨#[37, 118, 32, 109, 105, 115, 115, 105, 110, 103]⟩ 1 = some [(0, 118, false)] := by kernel_rfl
theorem fmt2r (w : World) : (FmtDoors.printed ⟨#[37, 118, 32, 109, 105, 115, 115, 105, 110, 103]⟩ 1).run Ybaf.prog w = .ok [(0, 118, false)] w := by kernel_rfl
theorem fmt3 : FmtStop.printed? ⟨#[37, 118, 32, 119, 104, 101, 114, 101, 32, 37, 118, 32, 98, 101, 108, 111, 110, 103, 115]⟩ 2 = some [(0, 118, false), (1, 118, false)] := by kernel_rfl
theorem fmt3r (w : World) : (FmtDoors.printed ⟨#[37, 118, 32, 119, 104, 101, 114, 101, 32, 37, 118, 32, 98, 101, 108, 111, 110, 103, 115]⟩ 2).run Ybaf.prog w = .ok [(0, 118, false), (1, 118, false)] w := by kernel_rfl
theorem fmt4 : FmtStop.printed? ⟨#[37, 118, 32, 119, 105, 116, 104, 111, 117, 116, 32, 97, 32, 108, 101, 110, 103, 116, 104]⟩ 1 = some [(0, 118, false)] := by kernel_rfl
theorem fmt4r (w : World) : (FmtDoors.printed ⟨#[37, 118, 32, 119, 105, 116, 104, 111, 117, 116, 32, 97, 32, 108, 101, 110, 103, 116, 104]⟩ 1).run Ybaf.prog w = .ok [(0, 118, false)] w := by kernel_rfl
theorem fmt5 : FmtStop.printed? ⟨#[37, 118, 32, 111, 102, 32, 105, 110, 100, 101, 102, 105, 110, 105, 116, 101, 32, 108, 101, 110, 103, 116, 104]⟩ 1 = some [(0, 118, false)] := by kernel_rfl
theorem fmt5r (w : World) : (FmtDoors.printed ⟨#[37, 118, 32, 111, 102, 32, 105, 110, 100, 101, 102, 105, 110, 105, 116, 101, 32, 108, 101, 110, 103, 116, 104]⟩ 1).run Ybaf.prog w = .ok [(0, 118, false)] w := by kernel_rfl
theorem fmt6 : FmtStop.printed? ⟨#[37, 118, 32, 108, 101, 110, 103, 116, 104, 32, 111, 102, 32, 37, 100, 32, 111, 99, 116, 101, 116, 115, 44, 32, 109, 111, 114, 101, 32, 116, 104, 97, 110, 32, 37, 100]⟩ 3 = some [(0, 118, false), (1, 100, false), (2, 100, false)] := by kernel_rfl
theorem fmt6r (w : World) : (FmtDoors.printed ⟨#[37, 118, 32, 108, 101, 110, 103, 116, 104, 32, 111, 102, 32, 37, 100, 32, 111, 99, 116, 101, 116, 115, 44, 32, 109, 111, 114, 101, 32, 116, 104, 97, 110, 32, 37, 100]⟩ 3).run Ybaf.prog w = .ok [(0, 118, false), (1, 100, false), (2, 100, false)] w := by kernel_rfl
theorem fmt7 : FmtStop.printed? ⟨#[37, 118, 32, 108, 101, 110, 103, 116, 104, 32, 114, 117, 110, 115, 32, 112, 97, 115, 116, 32, 116, 104, 101, 32, 100, 97, 116, 97]⟩ 1 = some [(0, 118, false)] := by kernel_rfl
theorem fmt7r (w : World) : (FmtDoors.printed ⟨#[37, 118, 32, 108, 101, 110, 103, 116, 104, 32, 114, 117, 110, 115, 32, 112, 97, 115, 116, 32, 116, 104, 101, 32, 100, 97, 116, 97]⟩ 1).run Ybaf.prog w = .ok [(0, 118, false)] w := by kernel_rfl
theorem fmt8 : FmtStop.printed? ⟨#[37, 118, 32, 108, 101, 110, 103, 116, 104, 32, 105, 110, 32, 108, 111, 110, 103, 32, 102, 111, 114, 109, 32, 119, 104, 101, 114, 101, 32, 116, 104, 101, 32, 115, 104, 111, 114, 116, 32, 102, 111, 114, 109, 32, 102, 105, 116, 115]⟩ 1 = some [(0, 118, false)] := by kernel_rfl
theorem fmt8r (w : World) : (FmtDoors.printed ⟨#[37, 118, 32, 108, 101, 110, 103, 116, 104, 32, 105, 110, 32, 108, 111, 110, 103, 32, 102, 111, 114, 109, 32, 119, 104, 101, 114, 101, 32, 116, 104, 101, 32, 115, 104, 111, 114, 116, 32, 102, 111, 114, 109, 32, 102, 105, 116, 115]⟩ 1).run Ybaf.prog w = .ok [(0, 118, false)] w := by kernel_rfl
theorem fmt9 : FmtStop.printed? ⟨#[37, 118, 32, 108, 101, 110, 103, 116, 104, 32, 119, 105, 116, 104, 32, 97, 32, 108, 101, 97, 100, 105, 110, 103, 32, 122, 101, 114, 111, 32, 111, 99, 116, 101, 116]⟩ 1 = some [(0, 118, false)] := by kernel_rfl
theorem fmt9r (w : World) : (FmtDoors.printed ⟨#[37, 118, 32, 108, 101, 110, 103, 116, 104, 32, 119, 105, 116, 104, 32, 97, 32, 108, 101, 97, 100, 105, 110, 103, 32, 122, 101, 114, 111, 32, 111, 99, 116, 101, 116]⟩ 1).run Ybaf.prog w = .ok [(0, 118, false)] w := by kernel_rfl
theorem fmt10 : FmtStop.printed? ⟨#[37, 118, 32, 111, 102, 32, 37, 100, 32, 111, 99, 116, 101, 116, 115, 32, 114, 117, 110, 115, 32, 112, 97, 115, 116, 32, 116, 104, 101, 32, 100, 97, 116, 97]⟩ 2 = some [(0, 118, false), (1, 100, false)] := by kernel_rfl
theorem fmt10r (w : World) : (FmtDoors.printed ⟨#[37, 118, 32, 111, 102, 32, 37, 100, 32, 111, 99, 116, 101, 116, 115, 32, 114, 117, 110, 115, 32, 112, 97, 115, 116, 32, 116, 104, 101, 32, 100, 97, 116, 97]⟩ 2).run Ybaf.prog w = .ok [(0, 118, false), (1, 100, false)] w := by kernel_rfl

def shape22 : List UInt8 := [6, 7, 0, 0, 0, 0, 0, 0, 0, 100, 101, 114, 46, 84, 97, 103]
def shape5 : List UInt8 := [6, 5, 0, 0, 0, 0, 0, 0, 0, 117, 105, 110, 116, 56]
def shape3 : List UInt8 := [5, 3, 0, 0, 0, 0, 0, 0, 0, 105, 110, 116]
def shape44 : List UInt8 := [9, 6, 0, 0, 0, 0, 0, 0, 0, 117, 105, 110, 116, 54, 52]

theorem act22_100 (name : String) (x : Value) (w : World) : (FmtCalls.act name false 100 false (.iface 22 x)).run Ybaf.prog w = .ok (.closed false) w := by kernel_rfl
theorem op22_100 (name : String) (x : Int) (w : World) : (FmtStop.operand name false 100 false (.iface 22 (.int .u8 x))).run Ybaf.prog w = .ok (shape22, Go.Extern.Stop.digits 8 (x % 2 ^ 64).toNat) w := by kernel_rfl
theorem act5_120s (name : String) (x : Value) (w : World) : (FmtCalls.act name false 120 true (.iface 5 x)).run Ybaf.prog w = .ok (.closed false) w := by kernel_rfl
theorem op5_120s (name : String) (x : Int) (w : World) : (FmtStop.operand name false 120 true (.iface 5 (.int .u8 x))).run Ybaf.prog w = .ok (shape5, Go.Extern.Stop.digits 8 (x % 2 ^ 64).toNat) w := by kernel_rfl
theorem act22_118w (name : String) (x : Value) (w : World) : (FmtCalls.act name true 118 false (.iface 22 x)).run Ybaf.prog w = .ok (.call false) w := by kernel_rfl
theorem act3_100w (name : String) (x : Value) (w : World) : (FmtCalls.act name true 100 false (.iface 3 x)).run Ybaf.prog w = .ok (.closed true) w := by kernel_rfl
theorem op3_100w (name : String) (x : Int) (w : World) : (FmtStop.operand name true 100 false (.iface 3 (.int .i64 x))).run Ybaf.prog w = .ok (shape3, Go.Extern.Stop.digits 8 (x % 2 ^ 64).toNat) w := by kernel_rfl
theorem act44_100w (name : String) (x : Value) (w : World) : (FmtCalls.act name true 100 false (.iface 44 x)).run Ybaf.prog w = .ok (.closed true) w := by kernel_rfl
theorem op44_100w (name : String) (x : Int) (w : World) : (FmtStop.operand name true 100 false (.iface 44 (.int .u64 x))).run Ybaf.prog w = .ok (shape44, Go.Extern.Stop.digits 8 (x % 2 ^ 64).toNat) w := by kernel_rfl
theorem fstr22 (w : World) : (typeStr 22).run Ybaf.prog w = .ok "der.Tag" w := by kernel_rfl
theorem ptr53 (w : World) : (FmtStop.ptrTo "errors.errorString").run Ybaf.prog w = .ok 53 w := by kernel_rfl
theorem elem53 (w : World) : (elemOf 53).run Ybaf.prog w = .ok 55 w := by kernel_rfl
theorem isError53 (w : World) : (FmtDoors.textMethod 53 "Error").run Ybaf.prog w = .ok true w := by kernel_rfl
theorem invokeString22 (x : Value) (w : World) : (invoke (.fn (.method "String") #[]) #[.iface 22 x]).run Ybaf.prog w = .ok (.enter 6 #[x]) w := by kernel_rfl
attribute [local go_sem] call12 call20 fguard fmt0 fmt0r fmt1 fmt1r fmt2 fmt2r fmt3 fmt3r fmt4 fmt4r fmt5 fmt5r fmt6 fmt6r fmt7 fmt7r fmt8 fmt8r fmt9 fmt9r fmt10 fmt10r act22_100 op22_100 act5_120s op5_120s act22_118w act3_100w op3_100w act44_100w op44_100w fstr22 ptr53 elem53 isError53

end Go.Proofs.YbulkegsiFmt