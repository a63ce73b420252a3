/-
  Seat b6604559aF: the closed facts on fmt.Sprintf's stop at this program's one format and its one operand's type; the walks of notFound.
-/
import Derived.Test.Qxb6604559aFmtRows
import Derived.Stop.CallBack
import Derived.Stop.IfaceNil
import GoSem.ClaimData
import Derived.WalkKit
import Derived.WalkSpells
import Derived.WalkLawsBesides
import Derived.RowKit
import Derived.Stop.FmtTextWidths
namespace Go.Proofs.Qxb6604559aFmt
open Go.RowKit Go.Extern.Stop Go.Stop Go.Extern

/-- the format: no access request, then the verb q -/
abbrev fmtBytes : List UInt8 := [110, 111, 32, 97, 99, 99, 101, 115, 115, 32, 114, 101, 113, 117, 101, 115, 116, 32, 37, 113]
def shape9 : List UInt8 := [12, 6, 0, 0, 0, 0, 0, 0, 0, 115, 116, 114, 105, 110, 103]
/-- WHAT fmt IS ASKED. -/
def reading (id : List UInt8) : List (List UInt8) := [fmtBytes, shape9, FmtStop.pack id]

theorem call11 (args : Array Value) (w : World) : (callFunc 11 args).run Tryf.prog w = (FmtCalls.sprintf #[9, 31] #[9] args).run Tryf.prog w :=
  run_callFunc_next Tryf.func11 (by kernel_rfl) (by kernel_rfl) (by kernel_rfl) args w
theorem guard (name : String) (w : World) : (FmtStop.guard name).run Tryf.prog w = .ok () w := by kernel_rfl
theorem fmt0 : FmtStop.printed? ⟨#[110, 111, 32, 97, 99, 99, 101, 115, 115, 32, 114, 101, 113, 117, 101, 115, 116, 32, 37, 113]⟩ 1 = some [(0, 113, false)] := by kernel_rfl
theorem fmt0r (w : World) : (FmtDoors.printed ⟨#[110, 111, 32, 97, 99, 99, 101, 115, 115, 32, 114, 101, 113, 117, 101, 115, 116, 32, 37, 113]⟩ 1).run Tryf.prog w = .ok [(0, 113, false)] w := by kernel_rfl
theorem act9 (name : String) (x : Value) (w : World) : (FmtCalls.act name false 113 false (.iface 9 x)).run Tryf.prog w = .ok (.closed false) w := by kernel_rfl
theorem op9 (name : String) (x : ByteArray) (w : World) : (FmtStop.operand name false 113 false (.iface 9 (.string x))).run Tryf.prog w = .ok (shape9, FmtStop.pack x.data.toList) w := by kernel_rfl

theorem nextTurns : Extern.next FmtCalls.turnsRow = some (FmtCalls.begun #[] #[]) := by kernel_rfl

set_option maxHeartbeats 400000 in
theorem notFound_all (F : Interp) (id : ByteArray) (w : World) (hF : F.answers w.tape) :
    Calls Tryf.prog 10 #[.string id] w fun e w' => e = .returned (.pointer (some ⟨w.heap.size + 1, 0, none⟩)) ∧
      w' = ((w.alloc (.cells #[.iface 9 (.string id)] 20)).alloc (.cells #[.int .i64 2, .string (FmtStop.textOf (F "fmt.Sprintf" (reading id.data.toList) 0))] 27)).drew := by
  have hF' := answers_open hF
  have c11 := call11
  have g := guard
  have f0 := fmt0r
  have f1 := fmt0
  have a9 := act9
  have o9 := op9
  go_enter Tryf.func10, Tryf.ntmps10
  go_wp2
  apply rows_value nextTurns
  case hr =>
    go_simp
    exact ⟨rfl, rfl⟩
  case h =>
    go_wp2
    go_ret
    exact ⟨rfl, rfl⟩
end Go.Proofs.Qxb6604559aFmt
