import Derived.Test.Qxb6626483aFmtRels
import Derived.Stop.CallBack
import Derived.Stop.IfaceNil
namespace Go.Proofs.Qxb6626483aFmt
open Go.ChangeShapes Go.WideShapes Go.ChangeAt Go.RowKit
open Go.Extern.Stop Go.Stop Go.Extern

/-- Find's format. -/
def fmtB : ByteArray := ⟨#[110, 111, 32, 112, 97, 121, 108, 111, 97, 100, 32, 105, 110, 32, 37, 115, 32, 104, 97, 115, 32, 118, 101, 114, 115, 105, 111, 110, 32, 37, 115, 59, 32, 116, 104, 101, 32, 118, 101, 114, 115, 105, 111, 110, 115, 32, 116, 104, 101, 114, 101, 32, 97, 114, 101, 32, 37, 115]⟩

theorem call13 (args : Array Value) (w : World) : (callFunc 13 args).run Tryf.prog w = ((FmtStop.errorf #[9, 42] #[32] args).run Tryf.prog w).andThen fun v w' => .ok (.value v) w' :=
  run_callFunc_extern Tryf.func13 (by kernel_rfl) (by kernel_rfl) (by kernel_rfl) (by kernel_rfl) args w
theorem guard13 (name : String) (w : World) : (FmtStop.guard name).run Tryf.prog w = .ok () w := by kernel_rfl
theorem fmt0 : FmtStop.printed? fmtB 3 = some [(0, 115, false), (1, 115, false), (2, 115, false)] := by kernel_rfl
theorem fmt0r (w : World) : (FmtDoors.printed fmtB 3).run Tryf.prog w = .ok [(0, 115, false), (1, 115, false), (2, 115, false)] w := by kernel_rfl
def shape9 : List UInt8 := [12, 6, 0, 0, 0, 0, 0, 0, 0, 115, 116, 114, 105, 110, 103]
theorem op9_115w (name : String) (x : ByteArray) (w : World) : (FmtStop.operand name true 115 false (.iface 9 (.string x))).run Tryf.prog w = .ok (shape9, FmtStop.pack x.data.toList) w := by kernel_rfl
theorem ptr47 (w : World) : (FmtStop.ptrTo "errors.errorString").run Tryf.prog w = .ok 47 w := by kernel_rfl
theorem elem47 (w : World) : (elemOf 47).run Tryf.prog w = .ok 49 w := by kernel_rfl

attribute [local go_sem] call13 guard13 op9_115w ptr47 elem47

set_option maxHeartbeats 1000000 in
set_option maxRecDepth 100000 in
theorem errorf11 (bk cap : Nat) (x0 x1 x2 : ByteArray) (w : World) (h0 : w.cell? ⟨bk, 0, none⟩ = some (.iface 9 (.string x0))) (h1 : w.cell? ⟨bk, 1, none⟩ = some (.iface 9 (.string x1))) (h2 : w.cell? ⟨bk, 2, none⟩ = some (.iface 9 (.string x2))) :
    Calls Tryf.prog 11 #[.string fmtB, .slice (some ⟨bk, 0, none⟩) 3 cap] w fun e w' => (∃ g, e = .returned (.iface 47 (.pointer (some ⟨g, 0, none⟩)))) ∧ Below w.heap.size w w' := by
  have hf := fmt0r
  have hf' := fmt0
  unfold fmtB at *
  go_enter Tryf.func11, Tryf.ntmps11
  go_wp2
  go_ret
  exact ⟨⟨_, rfl⟩, ((Below.refl _ _).alloc (Nat.le_refl _) _).drew⟩
end Go.Proofs.Qxb6626483aFmt
