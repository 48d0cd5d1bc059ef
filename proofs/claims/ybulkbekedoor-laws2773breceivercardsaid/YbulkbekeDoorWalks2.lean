/-
  THE WALK of LawS2773BReceiver.
-/
import Derived.Test.YbulkbekeDoorWalks
namespace Go.Proofs.YbulkbekeDoor
open Go.RowKit

set_option maxHeartbeats 400000 in
theorem receiver_other (mv : Value) (s off pos nest : Int) (text cut ends src : ByteArray) (w : World) (h0 : 0 ≤ s) (h1 : s ≤ 255) (hm : w.cell? ⟨0, 0, none⟩ = some mv) (hp : 0 < w.heap.size)
    (h13 : (s % 20 == 13) = false) (hlook : Hid (Look mv w)) :
    Calls Ybad.prog 4 #[.int .u8 s, .string text, .string cut, .int .i64 off, .string ends, .string src, .int .i64 pos, .int .i64 nest] w fun e w' => e = .returned (.bool true) ∧ Below w.heap.size w w' := by
  go_enter Ybad.func4, Ybad.ntmps4
  go_wp2_with fail
  refine (operator_other w.heap.size mv (s % 20) _ (by simp) h13 ?_ ?_).mono ?_
  · rw [((Below.refl w.heap.size w).alloc (Nat.le_refl _) _).cell hp]; exact hm
  · intro n; exact hlook.out _ (below_drewN ((Below.refl w.heap.size w).alloc (Nat.le_refl _) _) n) _ (by omega) (by omega)
  rintro e w1 ⟨rfl, n, rfl⟩
  go_wp2
  go_ret
  exact ⟨rfl, below_drewN ((Below.refl w.heap.size w).alloc (Nat.le_refl _) _) n⟩

set_option maxHeartbeats 400000 in
theorem receiver_not (mv : Value) (s off pos nest : Int) (text cut ends src : ByteArray) (w : World) (h0 : 0 ≤ s) (h1 : s ≤ 255) (hm : w.cell? ⟨0, 0, none⟩ = some mv) (hp : 0 < w.heap.size)
    (h13 : s % 20 = 13) (hlook : Hid (Look mv w)) :
    Calls Ybad.prog 4 #[.int .u8 s, .string text, .string cut, .int .i64 off, .string ends, .string src, .int .i64 pos, .int .i64 nest] w fun e w' => e = .returned (.bool true) ∧ Below w.heap.size w w' := by
  go_enter Ybad.func4, Ybad.ntmps4
  go_wp2_with fail
  refine (operator_not w.heap.size mv cut _ (by omega) (by simp) (by simp) (by simp) (by simp) ?_ ?_).mono ?_
  · rw [((Below.refl w.heap.size w).alloc (Nat.le_refl _) _).cell hp]; exact hm
  · intro n; exact hlook.out _ (below_drewN ((((Below.refl w.heap.size w).alloc (Nat.le_refl _) _).setCell (Nat.le_refl _) _).setCell (Nat.le_refl _) _) n) 6 (by omega) (by omega)
  rintro e w1 ⟨rfl, n, rfl⟩
  go_wp2
  go_ret
  exact ⟨rfl, below_drewN ((Below.refl w.heap.size w).alloc (Nat.le_refl _) _) n⟩

theorem receiver_any (mv : Value) (s off pos nest : Int) (text cut ends src : ByteArray) (w : World) (h0 : 0 ≤ s) (h1 : s ≤ 255) (hm : w.cell? ⟨0, 0, none⟩ = some mv) (hp : 0 < w.heap.size) (hlook : Hid (Look mv w)) :
    Calls Ybad.prog 4 #[.int .u8 s, .string text, .string cut, .int .i64 off, .string ends, .string src, .int .i64 pos, .int .i64 nest] w fun e w' => e = .returned (.bool true) ∧ Below w.heap.size w w' := by
  by_cases h : s % 20 = 13
  · exact receiver_not mv s off pos nest text cut ends src w h0 h1 hm hp h hlook
  · exact receiver_other mv s off pos nest text cut ends src w h0 h1 hm hp (by simpa using h) hlook

end Go.Proofs.YbulkbekeDoor
