/-
  THE WALKS of the seat b2773aD: operator, zzs2773bwant.
-/
import Derived.Test.YbulkbekeDoorRows
import Derived.WalkKit
import Derived.WalkSpells
import Derived.WalkLawsBesides
import Derived.Deep.QuietTactic
import Derived.BigQuiet
namespace Go.Proofs.YbulkbekeDoor
open Go.RowKit

/-- what the table gives at the token kind k -/
def opOf (k : Int) : Int := if k = 6 then 1 else if k = 7 then 2 else if k = 8 then 3 else if k = 9 then 4 else if k = 10 then 5 else 0
def okOf (k : Int) : Bool := decide (5 ≤ k) && decide (k ≤ 10)
/-- '!' read as '!=' -/
def asRead (k : Int) : Int := if k = 13 then 6 else k

set_option maxHeartbeats 400000 in
theorem operator_other (b : Nat) (mv : Value) (k : Int) (w : World) (hk : w.cell? ⟨b, 3, none⟩ = some (.int .i64 k)) (h13 : (k == 13) = false)
    (hm : w.cell? ⟨0, 0, none⟩ = some mv)
    (hrun : ∀ n, (Instr.lookup 42 mv (.int .i64 k) true).run Ybad.prog (w.drewN n) = .ok (.tuple #[.int .i8 (opOf k), .bool (okOf k)]) (w.drewN n)) :
    Calls Ybad.prog 5 #[.pointer (some ⟨b, 0, none⟩)] w fun e w' => e = .returned (.tuple #[.int .i8 (opOf k), .bool (okOf k)]) ∧ ∃ n, w' = w.drewN n := by
  go_enter Ybad.func5, Ybad.ntmps5
  go_wp2
  go_quiet (fail)
  go_wp2
  go_ret2
  exact ⟨rfl, _, rfl⟩

/-- the bytes of the text of '!=' cut short: with its two quotes -/
abbrev neqS : ByteArray := { data := #[34, 33, 61, 34] }

set_option maxHeartbeats 400000 in
theorem operator_not (b : Nat) (mv : Value) (c : ByteArray) (w : World) (hb : b ≠ 0) (hk : w.cell? ⟨b, 3, none⟩ = some (.int .i64 13)) (hc : w.cell? ⟨b, 6, none⟩ = some (.string c))
    (f3 : w.frozen? ⟨b, 3, none⟩ = false) (f6 : w.frozen? ⟨b, 6, none⟩ = false)
    (hm : w.cell? ⟨0, 0, none⟩ = some mv)
    (hrun : ∀ n, (Instr.lookup 42 mv (.int .i64 6) true).run Ybad.prog (((w.setCell ⟨b, 3, none⟩ (.int .i64 6)).setCell ⟨b, 6, none⟩ (.string neqS)).drewN n) = .ok (.tuple #[.int .i8 1, .bool true]) (((w.setCell ⟨b, 3, none⟩ (.int .i64 6)).setCell ⟨b, 6, none⟩ (.string neqS)).drewN n)) :
    Calls Ybad.prog 5 #[.pointer (some ⟨b, 0, none⟩)] w fun e w' => e = .returned (.tuple #[.int .i8 1, .bool true]) ∧ ∃ n, w' = ((w.setCell ⟨b, 3, none⟩ (.int .i64 6)).setCell ⟨b, 6, none⟩ (.string neqS)).drewN n := by
  have hb' : ¬ (0 = b) := fun h => hb h.symm
  go_enter Ybad.func5, Ybad.ntmps5
  go_wp2
  go_quiet (fail)
  go_wp2
  go_ret2
  exact ⟨rfl, _, rfl⟩

theorem ret_two {a c : Int} {b d : Bool} (h : c = a) (h' : d = b) : Ending.returned (.tuple #[.int .i8 a, .bool b]) = .returned (.tuple #[.int .i8 c, .bool d]) := by rw [h, h']

set_option maxHeartbeats 400000 in
theorem want_any (k : Int) (w : World) :
    Calls Ybad.prog 6 #[.int .i64 k] w fun e w' => e = .returned (.tuple #[.int .i8 (opOf (asRead k)), .bool (okOf (asRead k))]) ∧ w' = w := by
  go_enter Ybad.func6, Ybad.ntmps6
  go_wp2
  all_goals
    go_ret2
    refine ⟨ret_two ?_ ?_, rfl⟩ <;> simp only [beq_iff_eq, beq_eq_false_iff_ne] at * <;> simp [opOf, okOf, asRead, *] <;> omega


abbrev Look (mv : Value) (w : World) : Prop := ∀ wr, Below w.heap.size w wr → ∀ c : Int, 0 ≤ c → c < 20 → (Instr.lookup 42 mv (.int .i64 c) true).run Ybad.prog wr = .ok (.tuple #[.int .i8 (opOf c), .bool (okOf c)]) wr

set_option maxHeartbeats 400000 in
theorem table_other (mv : Value) (s off : Int) (text cut : ByteArray) (w : World) (h0 : 0 ≤ s) (h1 : s ≤ 255) (hm : w.cell? ⟨0, 0, none⟩ = some mv) (hp : 0 < w.heap.size)
    (h13 : (s % 20 == 13) = false) (hlook : Hid (Look mv w)) :
    Calls Ybad.prog 3 #[.int .u8 s, .string text, .string cut, .int .i64 off] w fun e w' => e = .returned (.bool true) ∧ Below w.heap.size w w' := by
  have ha : asRead (s % 20) = s % 20 := by unfold asRead; rw [if_neg (by simpa using h13)]
  have HA : Hid (asRead (s % 20) = s % 20) := ha
  clear ha
  go_enter Ybad.func3, Ybad.ntmps3
  go_wp2_with fail
  refine (operator_other w.heap.size mv (s % 20) _ (by simp) h13 ?_ ?_).mono ?_
  · rw [((Below.refl w.heap.size w).alloc (Nat.le_refl _) _).cell hp]; exact hm
  · intro n; exact hlook.out _ (below_drewN ((Below.refl w.heap.size w).alloc (Nat.le_refl _) _) n) _ (by omega) (by omega)
  rintro e w1 ⟨rfl, n, hn⟩
  have hB : Below w.heap.size w w1 := by rw [hn]; exact below_drewN ((Below.refl w.heap.size w).alloc (Nat.le_refl _) _) n
  clear hn
  go_wp2_with fail
  refine (want_any (s % 20) _).mono ?_
  rintro e w2 ⟨rfl, rfl⟩
  rw [HA.out]
  go_wp2
  go_ret
  exact ⟨rfl, hB⟩

set_option maxHeartbeats 400000 in
theorem table_not (mv : Value) (s off : Int) (text cut : ByteArray) (w : World) (h0 : 0 ≤ s) (h1 : s ≤ 255) (hm : w.cell? ⟨0, 0, none⟩ = some mv) (hp : 0 < w.heap.size)
    (h13 : s % 20 = 13) (hlook : Hid (Look mv w)) :
    Calls Ybad.prog 3 #[.int .u8 s, .string text, .string cut, .int .i64 off] w fun e w' => e = .returned (.bool true) ∧ Below w.heap.size w w' := by
  go_enter Ybad.func3, Ybad.ntmps3
  go_wp2_with fail
  refine (operator_not w.heap.size mv cut _ (by omega) (by simp) (by simp) (by simp) (by simp) ?_ ?_).mono ?_
  · rw [((Below.refl w.heap.size w).alloc (Nat.le_refl _) _).cell hp]; exact hm
  · intro n; exact hlook.out _ (below_drewN ((((Below.refl w.heap.size w).alloc (Nat.le_refl _) _).setCell (Nat.le_refl _) _).setCell (Nat.le_refl _) _) n) 6 (by omega) (by omega)
  rintro e w1 ⟨rfl, n, hn⟩
  have hB : Below w.heap.size w w1 := by rw [hn]; exact below_drewN ((((Below.refl w.heap.size w).alloc (Nat.le_refl _) _).setCell (Nat.le_refl _) _).setCell (Nat.le_refl _) _) n
  clear hn
  go_wp2_with fail
  refine (want_any 13 _).mono ?_
  rintro e w2 ⟨rfl, rfl⟩
  rw [show opOf (asRead 13) = 1 from rfl, show okOf (asRead 13) = true from rfl]
  go_wp2
  go_ret
  exact ⟨rfl, hB⟩

theorem table_any (mv : Value) (s off : Int) (text cut : ByteArray) (w : World) (h0 : 0 ≤ s) (h1 : s ≤ 255) (hm : w.cell? ⟨0, 0, none⟩ = some mv) (hp : 0 < w.heap.size) (hlook : Hid (Look mv w)) :
    Calls Ybad.prog 3 #[.int .u8 s, .string text, .string cut, .int .i64 off] w fun e w' => e = .returned (.bool true) ∧ Below w.heap.size w w' := by
  by_cases h : s % 20 = 13
  · exact table_not mv s off text cut w h0 h1 hm hp h hlook
  · exact table_other mv s off text cut w h0 h1 hm hp (by simpa using h) hlook

end Go.Proofs.YbulkbekeDoor
