/- fmt.Errorf at the compiler's own format, and the compiler's errorf: an error comes back that is not nil. What text it bears is not looked at. -/
import Derived.Test.YtfngjbeadakfaaaFmtProg
import Derived.Test.YtfngjbeadakfaaaFmtBlk
import Derived.Stop.CallBack
import Derived.Stop.IfaceNil
import GoSem.ClaimData
import Derived.WalkKit
import Derived.WalkSpells
import Derived.Handy
import Derived.Outline
import Derived.WalkLawsBesides
namespace Go.Proofs.YtfngjbeadakfaaaFmt
open Go.RowKit Go.Extern.Stop Go.Stop Go.Extern

theorem call17 (args : Array Value) (w : World) : (callFunc 17 args).run Tryf.prog w = (FmtCalls.errorf #[9, 56] #[30] args).run Tryf.prog w :=
  run_callFunc_next Tryf.func17 (by kernel_rfl) (by kernel_rfl) (by kernel_rfl) args w
theorem guardF (name : String) (w : World) : (FmtStop.guard name).run Tryf.prog w = .ok () w := by kernel_rfl
theorem fmt0 : FmtStop.printed? ⟨#[99, 121, 99, 108, 105, 99, 32, 109, 111, 100, 117, 108, 101, 32, 105, 109, 112, 111, 114, 116, 58, 32, 37, 115]⟩ 1 = some [(0, 115, false)] := by kernel_rfl
theorem fmt0r (w : World) : (FmtDoors.printed ⟨#[99, 121, 99, 108, 105, 99, 32, 109, 111, 100, 117, 108, 101, 32, 105, 109, 112, 111, 114, 116, 58, 32, 37, 115]⟩ 1).run Tryf.prog w = .ok [(0, 115, false)] w := by kernel_rfl
def shape9 : List UInt8 := [12, 6, 0, 0, 0, 0, 0, 0, 0, 115, 116, 114, 105, 110, 103]
theorem act9_115 (name : String) (x : Value) (w : World) : (FmtCalls.act name false 115 false (.iface 9 x)).run Tryf.prog w = .ok (.closed false) w := by kernel_rfl
theorem op9_115 (name : String) (x : ByteArray) (w : World) : (FmtStop.operand name false 115 false (.iface 9 (.string x))).run Tryf.prog w = .ok (shape9, FmtStop.pack x.data.toList) w := by kernel_rfl
theorem act9_115w (name : String) (x : Value) (w : World) : (FmtCalls.act name true 115 false (.iface 9 x)).run Tryf.prog w = .ok (.closed true) w := by kernel_rfl
theorem op9_115w (name : String) (x : ByteArray) (w : World) : (FmtStop.operand name true 115 false (.iface 9 (.string x))).run Tryf.prog w = .ok (shape9, FmtStop.pack x.data.toList) w := by kernel_rfl
theorem strict9 (name : String) (x : ByteArray) (w : World) : (FmtStop.strict name (.iface 9 (.string x))).run Tryf.prog w = .ok (shape9, FmtStop.pack x.data.toList) w := by kernel_rfl
theorem str9 (w : World) : (typeStr 9).run Tryf.prog w = .ok "string" w := by kernel_rfl
theorem ptr63 (w : World) : (FmtStop.ptrTo "errors.errorString").run Tryf.prog w = .ok 63 w := by kernel_rfl
theorem elem63 (w : World) : (elemOf 63).run Tryf.prog w = .ok 65 w := by kernel_rfl
theorem isError63 (w : World) : (FmtDoors.textMethod 63 "Error").run Tryf.prog w = .ok true w := by kernel_rfl
attribute [local go_sem] call17 guardF fmt0 fmt0r act9_115 op9_115 act9_115w op9_115w strict9 str9 ptr63 elem63 isError63

theorem nextTurns : Extern.next FmtCalls.turnsRow = some (FmtCalls.begun #[] #[]) := by kernel_rfl

/-- An error that is not nil comes back. -/
def SomeErr (w : World) (e : Ending) (w' : World) : Prop := ∃ x, e = .returned (.iface 57 (.pointer (some ⟨x, 0, none⟩))) ∧ Below w.heap.size w w'

set_option maxHeartbeats 1000000 in
theorem errorf_x (F : Interp) (b fb : Nat) (sp : Option Addr) (s : ByteArray) (ab : Nat) (w : World) (hF : F.answers w.tape) (h0 : w.cell? ⟨b, 0, none⟩ = some (.pointer (some ⟨fb, 0, none⟩))) (h1 : w.cell? ⟨fb, 0, none⟩ = some (.pointer sp)) (h2 : w.cell? ⟨ab, 0, none⟩ = some (.iface 9 (.string s))) :
    Calls Tryf.prog 14 #[.pointer (some ⟨b, 0, none⟩), .nilIface, .string ⟨#[99, 121, 99, 108, 105, 99, 32, 109, 111, 100, 117, 108, 101, 32, 105, 109, 112, 111, 114, 116, 58, 32, 37, 115]⟩, .slice (some ⟨ab, 0, none⟩) 1 1] w (SomeErr w) := by
  have hF' := answers_open hF
  go_enter Tryf.func14, Tryf.ntmps14
  go_wp2
  apply rows_value nextTurns
  case hr =>
    go_simp
    exact ⟨rfl, rfl⟩
  case h =>
    go_wp2
    go_ret
    refine ⟨_, rfl, ?_⟩
    first | go_grown | exact Below.drew (by go_grown)
end Go.Proofs.YtfngjbeadakfaaaFmt
