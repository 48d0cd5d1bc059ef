/-
  THE WALKS of the seat b2773a: stringOf.
-/
import Derived.Test.YbulkbekeRows
import Derived.WalkKit
import Derived.WalkSpells
import Derived.WalkLawsBesides
import Derived.Deep.QuietTactic
import Derived.BigQuiet
namespace Go.Proofs.Ybulkbeke
open Go.RowKit

theorem as_str (s : ByteArray) (w : World) : (Instr.typeAssert (.iface 9 (.string s)) 20 9 true).run Yba.prog w = .ok (.tuple #[.string s, .bool true]) w := by kernel_rfl
theorem as_nil (w : World) : (Instr.typeAssert .nilIface 20 9 true).run Yba.prog w = .ok (.tuple #[.string ⟨#[]⟩, .bool false]) w := by kernel_rfl
theorem as_int (n : Int) (w : World) : (Instr.typeAssert (.iface 3 (.int .i64 n)) 20 9 true).run Yba.prog w = .ok (.tuple #[.string ⟨#[]⟩, .bool false]) w := by kernel_rfl
theorem nil_nil (w : World) : (binOp .eql 20 .nilIface .nilIface).run Yba.prog w = .ok (.bool true) w := by kernel_rfl
theorem int_nil (n : Int) (w : World) : (binOp .eql 20 (.iface 3 (.int .i64 n)) .nilIface).run Yba.prog w = .ok (.bool false) w := by kernel_rfl

set_option maxHeartbeats 400000 in
theorem stringOf_str (s : ByteArray) (w : World) : Calls Yba.prog 9 #[.iface 9 (.string s)] w fun e w' => e = .returned (.tuple #[.string s, .bool true]) ∧ w' = w := by
  have h1 := as_str s
  go_enter Yba.func9, Yba.ntmps9
  go_wp2
  go_ret2
  exact ⟨rfl, rfl⟩

set_option maxHeartbeats 400000 in
theorem stringOf_nil (w : World) : Calls Yba.prog 9 #[.nilIface] w fun e w' => e = .returned (.tuple #[.string ⟨#[]⟩, .bool true]) ∧ w' = w := by
  have h1 := as_nil
  have h2 := nil_nil
  go_enter Yba.func9, Yba.ntmps9
  go_wp2
  go_ret2
  exact ⟨rfl, rfl⟩

set_option maxHeartbeats 400000 in
theorem stringOf_int (n : Int) (w : World) : Calls Yba.prog 9 #[.iface 3 (.int .i64 n)] w fun e w' => e = .returned (.tuple #[.string ⟨#[]⟩, .bool false]) ∧ w' = w := by
  have h1 := as_int n
  have h2 := int_nil n
  go_enter Yba.func9, Yba.ntmps9
  go_wp2
  go_ret2
  exact ⟨rfl, rfl⟩
end Go.Proofs.Ybulkbeke
