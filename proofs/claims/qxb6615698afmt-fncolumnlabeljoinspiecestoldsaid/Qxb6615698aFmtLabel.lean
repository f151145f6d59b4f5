/-
  columnLabel (10), ZZcolumnLabel (6) FOR EVERY F; what fmt is asked; the text told.
-/
import Derived.Test.Qxb6615698aFmtRows
import Derived.WalkKit
import Derived.WalkSpells
import Derived.Outline
import Derived.Stop.CallBack
import Derived.Stop.IfaceNil
import Derived.Stop.Texts
import Derived.Stop.JoinedTold
import Derived.Stop.FmtTextKit
import Derived.Stop.FmtTextVerbs
import Derived.RowKit3
namespace Go.Proofs.Qxb6615698aFmt
open Go.RowKit Go.Extern.Stop Go.Stop Go.Extern

/-! ### The closed facts for a walk over fmt.Sprintf, stopped -/
theorem Tryf.call11 (args : Array Value) (w : World) : (callFunc 11 args).run Tryf.prog w = ((FmtStop.sprintf #[9, 45] #[9] args).run Tryf.prog w).andThen fun v w' => .ok (.value v) w' :=
  run_callFunc_extern Tryf.func11 (by kernel_rfl) (by kernel_rfl) (by kernel_rfl) (by kernel_rfl) args w
theorem Tryf.guard (name : String) (w : World) : (FmtStop.guard name).run Tryf.prog w = .ok () w := by kernel_rfl
theorem Tryf.fmt0 : FmtStop.printed? ⟨#[37, 115, 58, 32, 99, 111, 108, 117, 109, 110, 32, 37, 113]⟩ 2 = some [(0, 115, false), (1, 113, false)] := by kernel_rfl
theorem Tryf.fmt0r (w : World) : (FmtDoors.printed ⟨#[37, 115, 58, 32, 99, 111, 108, 117, 109, 110, 32, 37, 113]⟩ 2).run Tryf.prog w = .ok [(0, 115, false), (1, 113, false)] w := by kernel_rfl
def Tryf.shape9 : List UInt8 := [12, 6, 0, 0, 0, 0, 0, 0, 0, 115, 116, 114, 105, 110, 103]
theorem Tryf.op9_115 (name : String) (x : ByteArray) (w : World) : (FmtStop.operand name false 115 false (.iface 9 (.string x))).run Tryf.prog w = .ok (Tryf.shape9, FmtStop.pack x.data.toList) w := by kernel_rfl
theorem Tryf.op9_113 (name : String) (x : ByteArray) (w : World) : (FmtStop.operand name false 113 false (.iface 9 (.string x))).run Tryf.prog w = .ok (Tryf.shape9, FmtStop.pack x.data.toList) w := by kernel_rfl

/-- WHAT fmt IS ASKED. -/
def reading (wh nm : List UInt8) : List (List UInt8) :=
  [[37, 115, 58, 32, 99, 111, 108, 117, 109, 110, 32, 37, 113], Tryf.shape9, FmtStop.pack wh, Tryf.shape9, FmtStop.pack nm]

attribute [local go_sem] Tryf.call11 Tryf.guard Tryf.fmt0 Tryf.fmt0r Tryf.op9_115 Tryf.op9_113

set_option maxHeartbeats 400000 in
theorem label_any (F : Interp) (wh nm : ByteArray) (w : World) (hF : F.answers w.tape) :
    Calls Tryf.prog 6 #[.string wh, .string nm] w fun e w' => e = .returned (.string (FmtStop.textOf (F "fmt.Sprintf" (reading wh.data.toList nm.data.toList) 0))) ∧
      w' = (w.alloc (.cells #[.iface 9 (.string wh), .iface 9 (.string nm)] 20)).drew := by
  have hF' := answers_open hF
  go_enter Tryf.func6, Tryf.ntmps6
  go_wp2
  go_ret
  exact ⟨rfl, rfl⟩

end Go.Proofs.Qxb6615698aFmt
