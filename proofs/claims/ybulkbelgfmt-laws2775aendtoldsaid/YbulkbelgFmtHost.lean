/-
  THE WALKS of isBlank (10), zzs2775ablank (6), fmt.Errorf with '%w' (11), hostEnd (7) (seat b2775aF).
-/
import Derived.Test.YbulkbelgFmtIs
import Derived.Deep.QuietTactic
import Derived.BigQuiet
import Derived.Deep.RegionWith
import Derived.Maps.AppendAt
namespace Go.Proofs.YbulkbelgFmt
open Go.RowKit Go.Extern.Stop Go.Stop Go.Extern

/-- a space, a tab, a carriage return -/
def blankB (c : Int) : Bool := (c == 32) || (c == 9) || (c == 13)
theorem ret_bool {a b : Bool} (h : b = a) : Ending.returned (.bool a) = .returned (.bool b) := by rw [h]

set_option maxHeartbeats 400000 in
theorem isBlank_any (c : Int) (w : World) : Calls Ybaf.prog 10 #[.int .u8 c] w fun e w' => e = .returned (.bool (blankB c)) ∧ w' = w := by
  by_cases h1 : c = 32
  · subst h1
    go_enter Ybaf.func10, Ybaf.ntmps10
    go_wp2
    go_ret
    exact ⟨rfl, rfl⟩
  · have g1 : (c == 32) = false := by simpa using h1
    by_cases h2 : c = 9
    · subst h2
      go_enter Ybaf.func10, Ybaf.ntmps10
      go_wp2
      go_ret
      exact ⟨rfl, rfl⟩
    · have g2 : (c == 9) = false := by simpa using h2
      have e : blankB c = (c == 13) := by unfold blankB; rw [g1, g2]; rfl
      have E : Hid (blankB c = (c == 13)) := e
      clear e
      go_enter Ybaf.func10, Ybaf.ntmps10
      go_wp2
      go_ret
      exact ⟨ret_bool E.out, rfl⟩

set_option maxHeartbeats 400000 in
theorem ablank_any (c : Int) (w : World) : Calls Ybaf.prog 6 #[.int .u8 c] w fun e w' => e = .returned (.bool (blankB c)) ∧ w' = w := by
  go_enter Ybaf.func6, Ybaf.ntmps6
  go_wp2
  all_goals
    go_ret
    refine ⟨ret_bool ?_, rfl⟩
    unfold blankB
    simp [*]

/-- the format of hostEnd's error -/
abbrev fmtH : ByteArray := ⟨#[37, 119, 58, 32, 101, 120, 112, 101, 99, 116, 101, 100, 32, 34, 60, 104, 111, 115, 116, 62, 32, 60, 99, 108, 111, 99, 107, 62, 34, 44, 32, 102, 111, 117, 110, 100, 32, 97, 32, 108, 105, 110, 101, 32, 116, 104, 97, 116, 32, 100, 111, 101, 115, 32, 110, 111, 116, 32, 115, 116, 97, 114, 116, 32, 119, 105, 116, 104, 32, 97, 32, 104, 111, 115, 116, 32, 110, 97, 109, 101]⟩
theorem fmtH_1 : FmtStop.printed? fmtH 1 = some [(0, 119, false)] := by kernel_rfl
theorem fmtH_1r (w : World) : (FmtDoors.printed fmtH 1).run Ybaf.prog w = .ok [(0, 119, false)] w := by kernel_rfl
theorem fmtH_0 : FmtStop.printed? fmtH 0 = some [] := by kernel_rfl
theorem fmtH_0r (w : World) : (FmtDoors.printed fmtH 0).run Ybaf.prog w = .ok [] w := by kernel_rfl
/-- the type's name, as the given rows have it -/
def errName : String := match (Rows.laid_example_com_antecede_antecede_ErrSyntax (H := Unit)) with
  | .iface t _ => t
  | _ => "x"
def plain58 : List UInt8 := 14 :: FmtStop.pack errName.toUTF8.data.toList
theorem opPlain58_119w (name : String) (a : Addr) (s : ByteArray) (w : World) (hc : w.cell? a = some (.string s)) :
    (FmtStop.operand name true 119 false (.iface 58 (.pointer (some a)))).run Ybaf.prog w = .ok (plain58, s.data.toList) w := by
  have h1 : (typeStr 58).run Ybaf.prog w = .ok errName w := by kernel_rfl
  have d2 : Ybaf.t58.desc = .pointer 60 := rfl
  have d3 : Ybaf.t60.desc = .named "errors.errorString" 59 := rfl
  simp [FmtStop.operand, h1, d2, d3, run_load, hc, plain58]

attribute [local go_sem] call14 fguard fmtH_1 fmtH_1r fmtH_0 fmtH_0r ptr58 elem58 isError58 ptr47 elem47 isError47

set_option maxHeartbeats 400000 in
theorem errorf_wrap (F : Interp) (g : Nat) (a : Addr) (s : ByteArray) (w : World) (hF : F.answers w.tape) (hc : w.cell? ⟨g, 0, none⟩ = some (.iface 58 (.pointer (some a)))) (hs : w.cell? a = some (.string s)) :
    Calls Ybaf.prog 11 #[.string fmtH, .slice (some ⟨g, 0, none⟩) 1 1] w fun e w' => e = .returned (.iface 47 (.pointer (some ⟨w.heap.size, 0, none⟩))) ∧ w'.cell? ⟨w.heap.size, 1, none⟩ = some (.iface 58 (.pointer (some a))) ∧ Below w.heap.size w w' := by
  have hF' := answers_open hF
  have hop := opPlain58_119w "fmt.errorf" a s w hs
  go_enter Ybaf.func11, Ybaf.ntmps11
  go_wp2
  go_ret
  exact ⟨rfl, by simp, ((Below.refl _ _).alloc (Nat.le_refl _) _).drew⟩

/-- e is the first blank's index, or n where there is none -/
def IsEnd (zs : List Int) (n e : Nat) : Prop := e ≤ n ∧ (∀ j, j < e → blankB (zs.getD j 0) = false) ∧ (e = n ∨ blankB (zs.getD e 0) = true)
theorem exists_end (zs : List Int) (n : Nat) : ∃ e, IsEnd zs n e := by
  have h : ∀ m k, n - k = m → k ≤ n → (∀ j, j < k → blankB (zs.getD j 0) = false) → ∃ e, IsEnd zs n e := by
    intro m
    induction m with
    | zero => intro k h1 h2 h3; exact ⟨k, h2, h3, .inl (by omega)⟩
    | succ m ih =>
      intro k h1 h2 h3
      cases hb : blankB (zs.getD k 0) with
      | true => exact ⟨k, h2, h3, .inr hb⟩
      | false =>
        refine ih (k + 1) (by omega) (by omega) (fun j hj => ?_)
        by_cases e : j < k
        · exact h3 j e
        · obtain rfl : j = k := by omega
          exact hb
  exact h (n - 0) 0 rfl (Nat.zero_le _) (fun j hj => absurd hj (Nat.not_lt_zero _))

set_option maxHeartbeats 800000 in
theorem hostEnd_pos (b off n cap e : Nat) (zs : List Int) (w : World) (hn : n ≤ 4096) (hc : ∀ j, j < n → w.cell? ⟨b, off + j, none⟩ = some (.int .u8 (zs.getD j 0))) (he : Hid (IsEnd zs n e)) (h0 : 0 < e) :
    Calls Ybaf.prog 7 #[.slice (some ⟨b, off, none⟩) n cap] w fun x w' => x = .returned (.tuple #[.int .i64 e, .nilIface]) ∧ w' = w := by
  have hen := he.out.1
  have hz : ((e : Int) == 0) = false := by simp; omega
  go_enter Ybaf.func7, Ybaf.ntmps7
  go_wp2
  go_loop [4] (fun i => ∃ k : Nat, k ≤ e ∧ i = .int .i64 k) (fun i => e - (intOf i).toNat)
  case atStart => exact ⟨0, Nat.zero_le _, rfl⟩
  case round =>
    obtain ⟨k, hk, rfl⟩ := hrel
    by_cases hke : k < e
    · have hcx := hc k (by omega)
      have hb : blankB (zs.getD k 0) = false := he.out.2.1 k hke
      generalize zs.getD k 0 = c at *
      clear hc
      have hkn : (k : Int) < (n : Int) := by omega
      go_wp2_with (go_at_call 10; refine (isBlank_any c _).mono ?_; rintro e w' ⟨rfl, rfl⟩)
      go_round
      case rel => exact ⟨k + 1, by omega, by go_num⟩
      case measure => simp [intOf]; omega
    · obtain rfl : k = e := by omega
      by_cases hkn : k < n
      · have hcx := hc k (by omega)
        have hb : blankB (zs.getD k 0) = true := by rcases he.out.2.2 with h | h; exact absurd h (by omega); exact h
        generalize zs.getD k 0 = c at *
        clear hc
        go_wp2_with (go_at_call 10; refine (isBlank_any c _).mono ?_; rintro e w' ⟨rfl, rfl⟩)
        go_ret2
        exact ⟨rfl, rfl⟩
      · go_wp2
        go_ret2
        exact ⟨rfl, rfl⟩
end Go.Proofs.YbulkbelgFmt
