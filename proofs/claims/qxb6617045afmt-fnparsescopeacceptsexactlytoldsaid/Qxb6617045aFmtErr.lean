/-
  fmt.Errorf at ParseScope's own format and operands: it hands back an error that is not nil, in new memory. (The facts on the stopped function, at this program's numbers: each by the kernel.)
-/
import Derived.Test.Qxb6617045aFmtCut
import Derived.Stop.CallBack
import Derived.Stop.IfaceNil
import GoSem.ClaimData
namespace Go.Proofs.Qxb6617045aFmt
open Go.RowKit Go.Extern.Stop Go.Stop Go.Extern

theorem call16 (args : Array Value) (w : World) : (callFunc 16 args).run Tryf.prog w = ((FmtStop.errorf #[9, 39] #[28] args).run Tryf.prog w).andThen fun v w' => .ok (.value v) w' :=
  run_callFunc_extern Tryf.func16 (by kernel_rfl) (by kernel_rfl) (by kernel_rfl) (by kernel_rfl) args w
theorem stopGuard (name : String) (w : World) : (FmtStop.guard name).run Tryf.prog w = .ok () w := by kernel_rfl
theorem fmt0 : FmtStop.printed? ⟨#[99, 114, 101, 100, 101, 110, 116, 105, 97, 108, 32, 115, 99, 111, 112, 101, 32, 37, 113, 32, 105, 115, 32, 110, 111, 116, 32, 100, 97, 116, 101, 47, 114, 101, 103, 105, 111, 110, 47, 115, 101, 114, 118, 105, 99, 101, 47, 37, 115]⟩ 2 = some [(0, 113, false), (1, 115, false)] := by kernel_rfl
theorem fmt0r (w : World) : (FmtDoors.printed ⟨#[99, 114, 101, 100, 101, 110, 116, 105, 97, 108, 32, 115, 99, 111, 112, 101, 32, 37, 113, 32, 105, 115, 32, 110, 111, 116, 32, 100, 97, 116, 101, 47, 114, 101, 103, 105, 111, 110, 47, 115, 101, 114, 118, 105, 99, 101, 47, 37, 115]⟩ 2).run Tryf.prog w = .ok [(0, 113, false), (1, 115, false)] w := by kernel_rfl
def shape9 : List UInt8 := [12, 6, 0, 0, 0, 0, 0, 0, 0, 115, 116, 114, 105, 110, 103]
theorem op9_113 (name : String) (x : ByteArray) (w : World) : (FmtStop.operand name false 113 false (.iface 9 (.string x))).run Tryf.prog w = .ok (shape9, FmtStop.pack x.data.toList) w := by kernel_rfl
theorem op9_115 (name : String) (x : ByteArray) (w : World) : (FmtStop.operand name false 115 false (.iface 9 (.string x))).run Tryf.prog w = .ok (shape9, FmtStop.pack x.data.toList) w := by kernel_rfl
theorem op9_113w (name : String) (x : ByteArray) (w : World) : (FmtStop.operand name true 113 false (.iface 9 (.string x))).run Tryf.prog w = .ok (shape9, FmtStop.pack x.data.toList) w := by kernel_rfl
theorem op9_115w (name : String) (x : ByteArray) (w : World) : (FmtStop.operand name true 115 false (.iface 9 (.string x))).run Tryf.prog w = .ok (shape9, FmtStop.pack x.data.toList) w := by kernel_rfl
theorem strict9 (name : String) (x : ByteArray) (w : World) : (FmtStop.strict name (.iface 9 (.string x))).run Tryf.prog w = .ok (shape9, FmtStop.pack x.data.toList) w := by kernel_rfl
theorem ptr43 (w : World) : (FmtStop.ptrTo "errors.errorString").run Tryf.prog w = .ok 43 w := by kernel_rfl
theorem elem43 (w : World) : (elemOf 43).run Tryf.prog w = .ok 45 w := by kernel_rfl
theorem isError43 (w : World) : (FmtDoors.textMethod 43 "Error").run Tryf.prog w = .ok true w := by kernel_rfl

attribute [local go_sem] call16 stopGuard fmt0 fmt0r op9_113 op9_115 op9_113w op9_115w strict9 ptr43 elem43 isError43

set_option maxHeartbeats 1000000 in
/-- fmt.Errorf, at ParseScope's format and two strings. -/
theorem errorf_any (F : Interp) (s t : ByteArray) (blk : Nat) (w : World) (hF : F.answers w.tape)
    (hc0 : w.cell? ⟨blk, 0, none⟩ = some (.iface 9 (.string s))) (hc1 : w.cell? ⟨blk, 1, none⟩ = some (.iface 9 (.string t))) :
    Calls Tryf.prog 14 #[.string ⟨#[99, 114, 101, 100, 101, 110, 116, 105, 97, 108, 32, 115, 99, 111, 112, 101, 32, 37, 113, 32, 105, 115, 32, 110, 111, 116, 32, 100, 97, 116, 101, 47, 114, 101, 103, 105, 111, 110, 47, 115, 101, 114, 118, 105, 99, 101, 47, 37, 115]⟩, .slice (some ⟨blk, 0, none⟩) 2 2] w fun e w' =>
      e = .returned (.iface 43 (.pointer (some ⟨w.heap.size, 0, none⟩))) ∧ ∃ o, w' = (w.alloc o).drew := by
  have hF' := answers_open hF
  go_enter Tryf.func14, Tryf.ntmps14
  go_wp2
  go_ret
  exact ⟨rfl, _, rfl⟩

end Go.Proofs.Qxb6617045aFmt
