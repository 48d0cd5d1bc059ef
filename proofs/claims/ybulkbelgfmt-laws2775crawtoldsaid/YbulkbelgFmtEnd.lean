/-
  THE WALK of (*binaryDecoder).end (function 9).
-/
import Derived.Test.YbulkbelgFmtFacts
import Derived.Deep.QuietTactic
import Derived.BigQuiet
import Derived.Deep.RegionWith
import Derived.Maps.AppendAt
namespace Go.Proofs.YbulkbelgFmt
open Go.RowKit Go.Extern.Stop Go.Stop Go.Extern

set_option maxHeartbeats 400000 in
theorem end_ok (bd n cap : Nat) (a : Option Addr) (w : World) (h0 : w.cell? ⟨bd, 0, none⟩ = some (.slice a n cap)) (h1 : w.cell? ⟨bd, 1, none⟩ = some (.int .i64 n)) :
    Calls Ybaf.prog 9 #[.pointer (some ⟨bd, 0, none⟩)] w fun e w' => e = .returned .nilIface ∧ ∃ m, w' = w.drewN m := by
  go_enter Ybaf.func9, Ybaf.ntmps9
  go_wp2
  go_quiet (fail)
  go_wp2
  go_ret
  exact ⟨rfl, _, rfl⟩

set_option maxHeartbeats 400000 in
theorem end_bad (F : Interp) (bd n cap : Nat) (pos : Int) (a : Option Addr) (w : World) (hF : F.answers w.tape) (hne : (pos != (n : Int)) = true) (h0 : w.cell? ⟨bd, 0, none⟩ = some (.slice a n cap)) (h1 : w.cell? ⟨bd, 1, none⟩ = some (.int .i64 pos)) :
    Calls Ybaf.prog 9 #[.pointer (some ⟨bd, 0, none⟩)] w fun e w' => ∃ x, e = .returned (.iface 58 (.pointer (some x))) ∧ Below w.heap.size w w' := by
  go_enter Ybaf.func9, Ybaf.ntmps9
  go_wp2
  go_quiet (fail)
  go_wp2
  go_region_with (go_at_call 11; refine (errorf_bytes F w.heap.size (IntKind.i64.wrap ((n : Int) - pos)) _ ?_ ?_).mono ?_; exact hF; exact cell_one_new _ _ _ 0 _ rfl; rintro e w1 ⟨rfl, hb1⟩)
  all_goals go_wp2
  all_goals
    go_ret
    exact ⟨_, rfl, ((below_drewN (Below.refl w.heap.size w) _).alloc (Nat.le_refl _) _).trans (hb1.mono (by simp))⟩

/-- (err == nil): at a new error, at nil -/
theorem err_nil (x : Addr) (w : World) : (binOp .eql 25 (.iface 58 (.pointer (some x))) .nilIface).run Ybaf.prog w = .ok (.bool false) w := by kernel_rfl
theorem nil_nil (w : World) : (binOp .eql 25 .nilIface .nilIface).run Ybaf.prog w = .ok (.bool true) w := by kernel_rfl

set_option maxHeartbeats 400000 in
theorem raw_any (F : Interp) (a : Option Addr) (n cap : Nat) (pos : Int) (w : World) (hF : F.answers w.tape) :
    Calls Ybaf.prog 5 #[.slice a n cap, .int .i64 pos] w fun e w' => e = .returned (.bool true) ∧ Below w.heap.size w w' := by
  by_cases hn : 1024 < n
  · have t0 : decide (1024 < (n : Int)) = true := by simp; omega
    go_enter Ybaf.func5, Ybaf.ntmps5
    go_wp2
    go_ret
    exact ⟨rfl, Below.refl _ _⟩
  · have t0 : decide (1024 < (n : Int)) = false := by simp; omega
    have hB0 := (Below.refl w.heap.size w).alloc (Nat.le_refl _) (.cells #[.slice a n cap, .int .i64 pos, .pointer none, .pointer none] 35)
    by_cases hp : pos = n
    · subst hp
      have hnn := nil_nil
      go_enter Ybaf.func5, Ybaf.ntmps5
      go_wp2_with fail
      refine (end_ok w.heap.size n cap a _ (by simp) (by simp)).mono ?_
      rintro e w1 ⟨rfl, m, rfl⟩
      go_wp2
      go_ret
      exact ⟨rfl, below_drewN hB0 m⟩
    · have hne : (pos != (n : Int)) = true := by simpa using hp
      have hne2 : (pos == (n : Int)) = false := by simpa using hp
      have hen := err_nil
      go_enter Ybaf.func5, Ybaf.ntmps5
      go_wp2_with fail
      refine (end_bad F w.heap.size n cap pos a _ (by exact hF) hne (by simp) (by simp)).mono ?_
      rintro e w1 ⟨x, rfl, hb1⟩
      have hc1 : w1.cell? ⟨w.heap.size, 1, none⟩ = some (.int .i64 pos) := (hb1.cell (by simp)).trans (by simp)
      have hB1 : Below w.heap.size w w1 := hB0.trans (hb1.mono (by simp))
      clear hb1 hB0
      go_wp2
      go_ret
      exact ⟨rfl, hB1⟩

set_option maxHeartbeats 400000 in
theorem mapped_any (F : Interp) (a : Option Addr) (n cap : Nat) (sel : Int) (w : World) (h0 : 0 ≤ sel) (h1 : sel ≤ 65535) (hF : F.answers w.tape) :
    Calls Ybaf.prog 4 #[.slice a n cap, .int .u16 sel] w fun e w' => e = .returned (.bool true) ∧ Below w.heap.size w w' := by
  by_cases hn : 1024 < n
  · have t0 : decide (1024 < (n : Int)) = true := by simp; omega
    go_enter Ybaf.func4, Ybaf.ntmps4
    go_wp2
    go_ret
    exact ⟨rfl, Below.refl _ _⟩
  · have t0 : decide (1024 < (n : Int)) = false := by simp; omega
    have hz : (n : Int) + 2 ≠ 0 := by omega
    have hnn := nil_nil
    have hen := err_nil
    go_enter Ybaf.func4, Ybaf.ntmps4
    go_wp2_with fail
    generalize sel % ((n : Int) + 2) = pos
    have hB0 := (Below.refl w.heap.size w).alloc (Nat.le_refl _) (.cells #[.slice a n cap, .int .i64 pos, .pointer none, .pointer none] 35)
    by_cases hp : pos = n
    · subst hp
      refine (end_ok w.heap.size n cap a _ (by simp) (by simp)).mono ?_
      rintro e w1 ⟨rfl, m, rfl⟩
      go_wp2
      go_ret
      exact ⟨rfl, below_drewN hB0 m⟩
    · have hne : (pos != (n : Int)) = true := by simpa using hp
      have hne2 : (pos == (n : Int)) = false := by simpa using hp
      refine (end_bad F w.heap.size n cap pos a _ (by exact hF) hne (by simp) (by simp)).mono ?_
      rintro e w1 ⟨x, rfl, hb1⟩
      have hc0 : w1.cell? ⟨w.heap.size, 0, none⟩ = some (.slice a n cap) := (hb1.cell (by simp)).trans (by simp)
      have hc1 : w1.cell? ⟨w.heap.size, 1, none⟩ = some (.int .i64 pos) := (hb1.cell (by simp)).trans (by simp)
      have hB1 : Below w.heap.size w w1 := hB0.trans (hb1.mono (by simp))
      clear hb1 hB0
      go_wp2
      go_ret
      exact ⟨rfl, hB1⟩
end Go.Proofs.YbulkbelgFmt
