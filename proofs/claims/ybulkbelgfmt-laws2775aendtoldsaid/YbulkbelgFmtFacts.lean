/-
  THE CLOSED FACTS FOR A WALK OVER fmt's STOPPED FRONT (seat b2775aF), after the guide's CheckFmt.lean: at this dump's numbers: 3 int, 9 string, 20 the empty interface, 25 error, 45 its slice, 58 and 60 errors.errorString, 47 and 92 fmt.wrapError; 14 fmt.errorf.
-/
import Derived.Test.YbulkbelgFmtRows
import Derived.WalkKit
import Derived.WalkSpells
import Derived.WalkLawsBesides
import Derived.Stop.CallBack
import Derived.Stop.IfaceNil
import GoSem.ClaimData
namespace Go.Proofs.YbulkbelgFmt
open Go.RowKit Go.Extern.Stop Go.Stop Go.Extern

theorem call14 (args : Array Value) (w : World) : (callFunc 14 args).run Ybaf.prog w = ((FmtStop.errorf #[9, 45] #[25] args).run Ybaf.prog w).andThen fun v w' => .ok (.value v) w' :=
  run_callFunc_extern Ybaf.func14 (by kernel_rfl) (by kernel_rfl) (by kernel_rfl) (by kernel_rfl) args w
theorem fguard (name : String) (w : World) : (FmtStop.guard name).run Ybaf.prog w = .ok () w := by kernel_rfl

/-- the format of (*binaryDecoder).end: a number, then ' bytes after the last entry' -/
abbrev fmtE : ByteArray := ⟨#[37, 100, 32, 98, 121, 116, 101, 115, 32, 97, 102, 116, 101, 114, 32, 116, 104, 101, 32, 108, 97, 115, 116, 32, 101, 110, 116, 114, 121]⟩
theorem fmtE_1 : FmtStop.printed? fmtE 1 = some [(0, 100, false)] := by kernel_rfl
theorem fmtE_1r (w : World) : (FmtDoors.printed fmtE 1).run Ybaf.prog w = .ok [(0, 100, false)] w := by kernel_rfl
theorem fmtE_0 : FmtStop.printed? fmtE 0 = some [] := by kernel_rfl
theorem fmtE_0r (w : World) : (FmtDoors.printed fmtE 0).run Ybaf.prog w = .ok [] w := by kernel_rfl
def shape3 : List UInt8 := [5, 3, 0, 0, 0, 0, 0, 0, 0, 105, 110, 116]
theorem op3_100 (name : String) (x : Int) (w : World) : (FmtStop.operand name false 100 false (.iface 3 (.int .i64 x))).run Ybaf.prog w = .ok (shape3, Go.Extern.Stop.digits 8 (x % 2 ^ 64).toNat) w := by kernel_rfl
theorem op3_100w (name : String) (x : Int) (w : World) : (FmtStop.operand name true 100 false (.iface 3 (.int .i64 x))).run Ybaf.prog w = .ok (shape3, Go.Extern.Stop.digits 8 (x % 2 ^ 64).toNat) w := by kernel_rfl
theorem strict3 (name : String) (x : Int) (w : World) : (FmtStop.strict name (.iface 3 (.int .i64 x))).run Ybaf.prog w = .ok (shape3, Go.Extern.Stop.digits 8 (x % 2 ^ 64).toNat) w := by kernel_rfl
theorem ptr58 (w : World) : (FmtStop.ptrTo "errors.errorString").run Ybaf.prog w = .ok 58 w := by kernel_rfl
theorem elem58 (w : World) : (elemOf 58).run Ybaf.prog w = .ok 60 w := by kernel_rfl
theorem isError58 (w : World) : (FmtDoors.textMethod 58 "Error").run Ybaf.prog w = .ok true w := by kernel_rfl
theorem ptr47 (w : World) : (FmtStop.ptrTo "fmt.wrapError").run Ybaf.prog w = .ok 47 w := by kernel_rfl
theorem elem47 (w : World) : (elemOf 47).run Ybaf.prog w = .ok 92 w := by kernel_rfl
theorem isError47 (w : World) : (FmtDoors.textMethod 47 "Error").run Ybaf.prog w = .ok true w := by kernel_rfl

attribute [local go_sem] call14 fguard fmtE_1 fmtE_1r fmtE_0 fmtE_0r op3_100 op3_100w strict3 ptr58 elem58 isError58 ptr47 elem47 isError47

set_option maxHeartbeats 400000 in
theorem errorf_bytes (F : Interp) (g : Nat) (n : Int) (w : World) (hF : F.answers w.tape) (hc : w.cell? ⟨g, 0, none⟩ = some (.iface 3 (.int .i64 n))) :
    Calls Ybaf.prog 11 #[.string fmtE, .slice (some ⟨g, 0, none⟩) 1 1] w fun e w' => e = .returned (.iface 58 (.pointer (some ⟨w.heap.size, 0, none⟩))) ∧ Below w.heap.size w w' := by
  have hF' := answers_open hF
  go_enter Ybaf.func11, Ybaf.ntmps11
  go_wp2
  go_ret
  exact ⟨rfl, ((Below.refl _ _).alloc (Nat.le_refl _) _).drew⟩

end Go.Proofs.YbulkbelgFmt
