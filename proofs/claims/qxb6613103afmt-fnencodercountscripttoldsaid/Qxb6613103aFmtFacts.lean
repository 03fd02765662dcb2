/-
  Closed facts on this translation that the walk over fmt.errorf wants (after the guide's CheckFmt.lean), and the plain words for the encoder's memory.
-/
import Derived.Test.Qxb6613103aFmtRows
import Derived.Stop.CallBack
import Derived.Stop.IfaceNil
import Derived.WalkKit
import Derived.WalkSpells
import Derived.OwnWalk
import Derived.RowKit3
import Derived.Below
import Derived.Laws.AppendOwn
import Derived.Maps.AppendAt
import Derived.Deep.Draws
namespace Go.Proofs.Qxb6613103aFmt.facts
open Go.Extern.Stop Go.Stop Go.Extern Go.RowKit

theorem call15 (args : Array Value) (w : World) : (callFunc 15 args).run Tryf.prog w = ((FmtStop.errorf #[9, 41] #[33] args).run Tryf.prog w).andThen fun v w' => .ok (.value v) w' :=
  run_callFunc_extern Tryf.func15 (by kernel_rfl) (by kernel_rfl) (by kernel_rfl) (by kernel_rfl) args w
theorem guard (name : String) (w : World) : (FmtStop.guard name).run Tryf.prog w = .ok () w := by kernel_rfl
theorem fmt3 : FmtStop.printed? ⟨#[37, 115, 32, 104, 111, 108, 100, 115, 32, 37, 100, 32, 105, 116, 101, 109, 115, 44, 32, 111, 118, 101, 114, 32, 105, 116, 115, 32, 98, 111, 117, 110, 100, 32, 111, 102, 32, 37, 100]⟩ 3 = some [(0, 115, false), (1, 100, false), (2, 100, false)] := by kernel_rfl
theorem fmt3r (w : World) : (FmtDoors.printed ⟨#[37, 115, 32, 104, 111, 108, 100, 115, 32, 37, 100, 32, 105, 116, 101, 109, 115, 44, 32, 111, 118, 101, 114, 32, 105, 116, 115, 32, 98, 111, 117, 110, 100, 32, 111, 102, 32, 37, 100]⟩ 3).run Tryf.prog w = .ok [(0, 115, false), (1, 100, false), (2, 100, false)] w := by kernel_rfl
def shape9 : List UInt8 := [12, 6, 0, 0, 0, 0, 0, 0, 0, 115, 116, 114, 105, 110, 103]
theorem op9_115 (name : String) (x : ByteArray) (w : World) : (FmtStop.operand name false 115 false (.iface 9 (.string x))).run Tryf.prog w = .ok (shape9, FmtStop.pack x.data.toList) w := by kernel_rfl
theorem op9_115w (name : String) (x : ByteArray) (w : World) : (FmtStop.operand name true 115 false (.iface 9 (.string x))).run Tryf.prog w = .ok (shape9, FmtStop.pack x.data.toList) w := by kernel_rfl
def shape3 : List UInt8 := [5, 3, 0, 0, 0, 0, 0, 0, 0, 105, 110, 116]
theorem op3_100 (name : String) (x : Int) (w : World) : (FmtStop.operand name false 100 false (.iface 3 (.int .i64 x))).run Tryf.prog w = .ok (shape3, Go.Extern.Stop.digits 8 (x % 2 ^ 64).toNat) w := by kernel_rfl
theorem op3_100w (name : String) (x : Int) (w : World) : (FmtStop.operand name true 100 false (.iface 3 (.int .i64 x))).run Tryf.prog w = .ok (shape3, Go.Extern.Stop.digits 8 (x % 2 ^ 64).toNat) w := by kernel_rfl
theorem ptr47 (w : World) : (FmtStop.ptrTo "errors.errorString").run Tryf.prog w = .ok 47 w := by kernel_rfl
theorem elem47 (w : World) : (elemOf 47).run Tryf.prog w = .ok 49 w := by kernel_rfl
theorem isError47 (w : World) : (FmtDoors.textMethod 47 "Error").run Tryf.prog w = .ok true w := by kernel_rfl

attribute [local go_sem] call15 guard fmt3 fmt3r op9_115 op9_115w op3_100 op3_100w ptr47 elem47 isError47

set_option maxHeartbeats 400000 in
/-- fmt.Errorf at the one format of this program -/
theorem errorf (F : Interp) (f : ByteArray) (n m : Int) (b : Nat) (w : World) (hF : F.answers w.tape)
    (h0 : w.cell? ⟨b, 0, none⟩ = some (.iface 9 (.string f))) (h1 : w.cell? ⟨b, 1, none⟩ = some (.iface 3 (.int .i64 n))) (h2 : w.cell? ⟨b, 2, none⟩ = some (.iface 3 (.int .i64 m))) :
    Calls Tryf.prog 13 #[.string ⟨#[37, 115, 32, 104, 111, 108, 100, 115, 32, 37, 100, 32, 105, 116, 101, 109, 115, 44, 32, 111, 118, 101, 114, 32, 105, 116, 115, 32, 98, 111, 117, 110, 100, 32, 111, 102, 32, 37, 100]⟩, .slice (some ⟨b, 0, none⟩) 3 3] w fun e w' =>
      ∃ o, e = .returned (.iface 47 (.pointer (some ⟨w.heap.size, 0, none⟩))) ∧ w' = (w.alloc o).drew := by
  have hF' := answers_open hF
  go_enter Tryf.func13, Tryf.ntmps13
  go_wp2
  go_ret
  exact ⟨_, rfl, rfl⟩
end Go.Proofs.Qxb6613103aFmt.facts
