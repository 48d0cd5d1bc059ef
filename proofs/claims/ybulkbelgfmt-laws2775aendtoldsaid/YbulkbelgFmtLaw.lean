/-
  THE WALKS of hostEnd's error (7) and of LawS2775AEnd (3) (seat b2775aF).
-/
import Derived.Test.YbulkbelgFmtHost
namespace Go.Proofs.YbulkbelgFmt
open Go.RowKit Go.Extern.Stop Go.Stop Go.Extern

/-- what hostEnd's way of the error leaves -/
def Wrapped (w w' : World) (sa : Addr) : Prop := w'.cell? ⟨w.heap.size + 1, 1, none⟩ = some (.iface 58 (.pointer (some sa))) ∧ Below w.heap.size w w'

theorem cell_old {w : World} {a : Addr} {v : Value} {o : Obj} (h : w.cell? a = some v) : (w.alloc o).cell? a = some v :=
  (((Below.refl w.heap.size w).alloc (Nat.le_refl _) o).cell (World.block_lt_of_cell? w a h)).trans h
theorem size_one (w : World) (o : Obj) : (w.alloc o).heap.size = w.heap.size + 1 := by simp
theorem wrapped_of {w w1 : World} {o : Obj} {sa : Addr} (hc : w1.cell? ⟨(w.alloc o).heap.size, 1, none⟩ = some (.iface 58 (.pointer (some sa)))) (hb : Below (w.alloc o).heap.size (w.alloc o) w1) : Wrapped w w1 sa := by
  rw [size_one] at hc hb
  exact ⟨hc, ((Below.refl w.heap.size w).alloc (Nat.le_refl _) o).trans (hb.mono (Nat.le_succ _))⟩

set_option maxHeartbeats 800000 in
theorem hostEnd_none (F : Interp) (a : Option Addr) (cap : Nat) (sa : Addr) (st : ByteArray) (w : World) (hF : F.answers w.tape) (hg : w.cell? ⟨0, 0, none⟩ = some (.iface 58 (.pointer (some sa)))) (hs : w.cell? sa = some (.string st)) :
    Calls Ybaf.prog 7 #[.slice a 0 cap] w fun x w' => x = .returned (.tuple #[.int .i64 0, .iface 47 (.pointer (some ⟨w.heap.size + 1, 0, none⟩))]) ∧ Wrapped w w' sa := by
  go_enter Ybaf.func7, Ybaf.ntmps7
  go_wp2
  refine wp_loop_rounds 1 ?_
  rw [rounds_succ]
  go_wp2_with fail
  refine (errorf_wrap F w.heap.size sa st _ (by exact hF) (cell_one_new _ _ _ 0 _ rfl) (cell_old hs)).mono ?_
  rintro e w1 ⟨rfl, hc1, hb1⟩
  have R := wrapped_of hc1 hb1
  clear hc1 hb1
  go_wp2
  go_ret2
  exact ⟨rfl, R⟩

set_option maxHeartbeats 800000 in
theorem hostEnd_blank (F : Interp) (b off n cap : Nat) (c : Int) (sa : Addr) (st : ByteArray) (w : World) (hF : F.answers w.tape) (hg : w.cell? ⟨0, 0, none⟩ = some (.iface 58 (.pointer (some sa)))) (hs : w.cell? sa = some (.string st))
    (hn : 0 < n) (hc : w.cell? ⟨b, off, none⟩ = some (.int .u8 c)) (hb : blankB c = true) :
    Calls Ybaf.prog 7 #[.slice (some ⟨b, off, none⟩) n cap] w fun x w' => x = .returned (.tuple #[.int .i64 0, .iface 47 (.pointer (some ⟨w.heap.size + 1, 0, none⟩))]) ∧ Wrapped w w' sa := by
  have hn' : (0 : Int) < (n : Int) := by omega
  go_enter Ybaf.func7, Ybaf.ntmps7
  go_wp2
  refine wp_loop_rounds 1 ?_
  rw [rounds_succ]
  go_wp2_with fail
  refine (isBlank_any c _).mono ?_
  rintro e w' ⟨rfl, rfl⟩
  go_wp2_with fail
  refine (errorf_wrap F w'.heap.size sa st _ (by exact hF) (cell_one_new _ _ _ 0 _ rfl) (cell_old hs)).mono ?_
  rintro e w1 ⟨rfl, hc1, hb1⟩
  have R := wrapped_of hc1 hb1
  clear hc1 hb1
  go_wp2
  go_ret2
  exact ⟨rfl, R⟩

/-- a line: empty, or its cells -/
def LineAt (w : World) (a : Option Addr) (n : Nat) (zs : List Int) : Prop :=
  n ≤ 4096 ∧ (n = 0 ∨ ∃ b off, a = some ⟨b, off, none⟩ ∧ ∀ j, j < n → w.cell? ⟨b, off + j, none⟩ = some (.int .u8 (zs.getD j 0)))

theorem hostEnd_zero (F : Interp) (a : Option Addr) (n cap : Nat) (zs : List Int) (sa : Addr) (st : ByteArray) (w : World) (hF : F.answers w.tape) (hg : w.cell? ⟨0, 0, none⟩ = some (.iface 58 (.pointer (some sa)))) (hs : w.cell? sa = some (.string st))
    (hl : LineAt w a n zs) (he : IsEnd zs n 0) :
    Calls Ybaf.prog 7 #[.slice a n cap] w fun x w' => x = .returned (.tuple #[.int .i64 0, .iface 47 (.pointer (some ⟨w.heap.size + 1, 0, none⟩))]) ∧ Wrapped w w' sa := by
  by_cases h0 : n = 0
  · subst h0; exact hostEnd_none F a cap sa st w hF hg hs
  · rcases hl.2 with h | ⟨b, off, rfl, hc⟩
    · exact absurd h h0
    · rcases he.2.2 with h | h
      · exact absurd h.symm h0
      · exact hostEnd_blank F b off n cap (zs.getD 0 0) sa st w hF hg hs (by omega) (hc 0 (by omega)) h

theorem neq_nil (v : Value) (w : World) : (binOp .neq 25 (.iface 47 v) .nilIface).run Ybaf.prog w = .ok (.bool true) w := run_neq_iface_nil w 25 (by kernel_rfl) 47 v
theorem eql_nil (w : World) : (binOp .eql 25 .nilIface .nilIface).run Ybaf.prog w = .ok (.bool true) w := by kernel_rfl

set_option maxHeartbeats 800000 in
theorem law_some (F : Interp) (b off n cap e : Nat) (zs : List Int) (sa : Addr) (st : ByteArray) (w : World) (hF : F.answers w.tape) (hg : w.cell? ⟨0, 0, none⟩ = some (.iface 58 (.pointer (some sa)))) (hs : w.cell? sa = some (.string st))
    (hn : n ≤ 4096) (hc : ∀ j, j < n → w.cell? ⟨b, off + j, none⟩ = some (.int .u8 (zs.getD j 0))) (he : Hid (IsEnd zs n e)) :
    Calls Ybaf.prog 3 #[.slice (some ⟨b, off, none⟩) n cap] w fun x w' => x = .returned (.bool true) ∧ Below w.heap.size w w' := by
  have t0 : decide (4096 < (n : Int)) = false := by simp; omega
  have hen := he.out.1
  have HC : Hid (∀ j, j < n → w.cell? ⟨b, off + j, none⟩ = some (.int .u8 (zs.getD j 0))) := hc
  have LA : Hid (LineAt w (some ⟨b, off, none⟩) n zs) := ⟨hn, .inr ⟨b, off, rfl, hc⟩⟩
  clear hc
  have hnn := neq_nil
  have hen2 := eql_nil
  go_enter Ybaf.func3, Ybaf.ntmps3
  go_wp2
  go_loop [3, 4] (fun q i => ∃ k : Nat, k ≤ e ∧ i = .int .i64 k ∧ q = .int .i64 n) (fun _ i => e - (intOf i).toNat)
  case atStart => exact ⟨0, Nat.zero_le _, rfl, rfl⟩
  case round =>
    obtain ⟨k, hk, rfl, rfl⟩ := hrel
    by_cases hke : k < e
    · have hcx := HC.out k (by omega)
      have hb : blankB (zs.getD k 0) = false := he.out.2.1 k hke
      generalize zs.getD k 0 = c at *
      go_wp2_with (go_at_call 6; refine (ablank_any c _).mono ?_; rintro e w' ⟨rfl, rfl⟩)
      go_round
      case rel => exact ⟨k + 1, by omega, by go_num, rfl⟩
      case measure => simp [intOf]; omega
    · obtain rfl : k = e := by omega
      by_cases hkn : k < n
      · have hcx := HC.out k (by omega)
        have hb : blankB (zs.getD k 0) = true := by rcases he.out.2.2 with h | h; exact absurd h (by omega); exact h
        generalize zs.getD k 0 = c at *
        go_wp2_with (go_at_call 6; refine (ablank_any c _).mono ?_; rintro e w2 ⟨rfl, rfl⟩)
        by_cases hk0 : k = 0
        · subst hk0
          refine (hostEnd_zero F _ _ cap zs sa st w2 hF hg hs (LA.out) he.out).mono ?_
          rintro e w1 ⟨rfl, hc1, hb1⟩
          have hg1 : w1.cell? ⟨0, 0, none⟩ = some (.iface 58 (.pointer (some sa))) := (hb1.cell (World.block_lt_of_cell? w2 _ hg)).trans hg
          go_wp2_with (go_at_call 8; refine (is_wrap_same (w2.heap.size + 1) 0 sa w1 hc1).mono ?_; rintro e w2 ⟨rfl, rfl⟩)
          go_ret
          exact ⟨rfl, hb1⟩
        · have hz : ((k : Int) == 0) = false := by simp; omega
          refine (hostEnd_pos b off _ cap k zs w2 hn HC.out he (by omega)).mono ?_
          rintro e w1 ⟨rfl, rfl⟩
          go_wp2
          go_ret
          exact ⟨rfl, Below.refl _ _⟩
      · obtain rfl : n = k := by omega
        go_wp2_with fail
        by_cases hk0 : n = 0
        · subst hk0
          refine (hostEnd_zero F _ _ cap zs sa st w hF hg hs (LA.out) he.out).mono ?_
          rintro e w1 ⟨rfl, hc1, hb1⟩
          have hg1 : w1.cell? ⟨0, 0, none⟩ = some (.iface 58 (.pointer (some sa))) := (hb1.cell (World.block_lt_of_cell? w _ hg)).trans hg
          go_wp2_with (go_at_call 8; refine (is_wrap_same (w.heap.size + 1) 0 sa w1 hc1).mono ?_; rintro e w2 ⟨rfl, rfl⟩)
          go_ret
          exact ⟨rfl, hb1⟩
        · have hz : ((n : Int) == 0) = false := by simp; omega
          refine (hostEnd_pos b off _ cap n zs w hn HC.out he (by omega)).mono ?_
          rintro e w1 ⟨rfl, rfl⟩
          go_wp2
          go_ret
          exact ⟨rfl, Below.refl _ _⟩

set_option maxHeartbeats 800000 in
theorem law_none (F : Interp) (a : Option Addr) (cap : Nat) (sa : Addr) (st : ByteArray) (w : World) (hF : F.answers w.tape) (hg : w.cell? ⟨0, 0, none⟩ = some (.iface 58 (.pointer (some sa)))) (hs : w.cell? sa = some (.string st)) :
    Calls Ybaf.prog 3 #[.slice a 0 cap] w fun x w' => x = .returned (.bool true) ∧ Below w.heap.size w w' := by
  have hnn := neq_nil
  go_enter Ybaf.func3, Ybaf.ntmps3
  go_wp2
  refine wp_loop_rounds 1 ?_
  rw [rounds_succ]
  go_wp2_with fail
  refine (hostEnd_none F a cap sa st w hF hg hs).mono ?_
  rintro e w1 ⟨rfl, hc1, hb1⟩
  have hg1 : w1.cell? ⟨0, 0, none⟩ = some (.iface 58 (.pointer (some sa))) := (hb1.cell (World.block_lt_of_cell? w _ hg)).trans hg
  go_wp2_with (go_at_call 8; refine (is_wrap_same (w.heap.size + 1) 0 sa w1 hc1).mono ?_; rintro e w2 ⟨rfl, rfl⟩)
  go_ret
  exact ⟨rfl, hb1⟩

set_option maxHeartbeats 400000 in
theorem law_long (a : Option Addr) (n cap : Nat) (w : World) (hn : 4096 < n) :
    Calls Ybaf.prog 3 #[.slice a n cap] w fun x w' => x = .returned (.bool true) ∧ Below w.heap.size w w' := by
  have t0 : decide (4096 < (n : Int)) = true := by simp; omega
  go_enter Ybaf.func3, Ybaf.ntmps3
  go_wp2
  go_ret
  exact ⟨rfl, Below.refl _ _⟩

theorem law_any (F : Interp) (a : Option Addr) (n cap : Nat) (zs : List Int) (sa : Addr) (st : ByteArray) (w : World) (hF : F.answers w.tape) (hg : w.cell? ⟨0, 0, none⟩ = some (.iface 58 (.pointer (some sa)))) (hs : w.cell? sa = some (.string st))
    (hl : n ≤ 4096 → LineAt w a n zs) :
    Calls Ybaf.prog 3 #[.slice a n cap] w fun x w' => x = .returned (.bool true) ∧ Below w.heap.size w w' := by
  by_cases hn : n ≤ 4096
  · rcases (hl hn).2 with rfl | ⟨b, off, rfl, hc⟩
    · exact law_none F a cap sa st w hF hg hs
    · obtain ⟨e, he⟩ := exists_end zs n
      exact law_some F b off n cap e zs sa st w hF hg hs hn hc he
  · exact law_long a n cap w (by omega)
end Go.Proofs.YbulkbelgFmt
