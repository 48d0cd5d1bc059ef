/-
  THE WALK of zzs2773cmodel (function 7).
-/
import Derived.Test.YbulkbekeBuild
namespace Go.Proofs.Ybulkbeke
open Go.RowKit Go.Maps

theorem Yba.info9 : (Yba.prog.info? 9).map (fun i => (i.zero, i.size, i.bytes)) = some (some (.string ⟨#[]⟩), 1, 16) := by kernel_rfl

theorem str0 {ks : List Int} {ss : List ByteArray} {k : Nat} (h : ks.getD k 0 % 3 = 0) : strOf ks ss k = some (pickS ss k) := by unfold strOf; rw [if_pos h]
theorem str1 {ks : List Int} {ss : List ByteArray} {k : Nat} (h : ks.getD k 0 % 3 = 1) : strOf ks ss k = some ⟨#[]⟩ := by unfold strOf; rw [if_neg (by omega), if_pos h]
theorem str2 {ks : List Int} {ss : List ByteArray} {k : Nat} (h : ks.getD k 0 % 3 = 2) : strOf ks ss k = none := by unfold strOf; rw [if_neg (by omega), if_neg (by omega)]

theorem model_found {ks : List Int} {ss : List ByteArray} {k B : Nat} {s : ByteArray} {D : List ByteArray} {w : World} {v : Value} (hs : strOf ks ss k = some s) (hD : D = dist ks ss k) (hf : hasS D s = true)
    (h : w.ownsRow B 9 1 v D.length (D.map Value.string)) : w.ownsRow B 9 1 v (dist ks ss (k + 1)).length ((dist ks ss (k + 1)).map Value.string) := by
  have e : dist ks ss (k + 1) = D := by rw [dist_some hs, ← hD]; unfold addS; rw [if_pos hf]
  rw [e]; exact h
theorem model_new {ks : List Int} {ss : List ByteArray} {k B : Nat} {s : ByteArray} {D : List ByteArray} {w : World} {v : Value} (hs : strOf ks ss k = some s) (hD : D = dist ks ss k) (hf : hasS D s = false)
    (h : w.ownsRow B 9 1 v (D.length + 1) (D.map Value.string ++ [.string s])) : w.ownsRow B 9 1 v (dist ks ss (k + 1)).length ((dist ks ss (k + 1)).map Value.string) := by
  have e : dist ks ss (k + 1) = D ++ [s] := by rw [dist_some hs, ← hD]; unfold addS; rw [if_neg (by rw [hf]; simp)]
  rw [e]
  simpa using h
theorem hasS_step {D : List ByteArray} {s t : ByteArray} {j : Nat} (hj : j < D.length) (ht : t = D.getD j ⟨#[]⟩) (hne : (t.data.toList == s.data.toList) = false) (h : hasS (D.take j) s = false) : hasS (D.take (j + 1)) s = false := by
  have e : D.take (j + 1) = D.take j ++ [t] := by
    rw [List.take_succ_eq_append_getElem hj, ht, List.getD_eq_getElem?_getD, List.getElem?_eq_getElem hj]; rfl
  rw [e]; unfold hasS at h ⊢; rw [List.any_append, h]; simpa using hne
theorem hasS_hit {D : List ByteArray} {s t : ByteArray} {j : Nat} (hj : j < D.length) (ht : t = D.getD j ⟨#[]⟩) (he : (t.data.toList == s.data.toList) = true) : hasS D s = true := by
  unfold hasS
  refine List.any_eq_true.2 ⟨t, ?_, he⟩
  rw [ht, List.getD_eq_getElem?_getD, List.getElem?_eq_getElem hj]; exact List.getElem_mem hj
theorem hasS_all {D : List ByteArray} {s : ByteArray} {j : Nat} (hj : ¬ j < D.length) (h : hasS (D.take j) s = false) : hasS D s = false := by
  rw [List.take_of_length_le (by omega)] at h; exact h
theorem row_cell {w : World} {B g cp j : Nat} {D : List ByteArray} (h : w.ownsRow B 9 1 (.slice (some ⟨g, 0, none⟩) D.length cp) D.length (D.map Value.string)) (hj : j < D.length) : w.cell? ⟨g, j, none⟩ = some (.string (D.getD j ⟨#[]⟩)) := by
  rw [h.cellAt j (by omega), List.getElem?_map, List.getD_eq_getElem?_getD, List.getElem?_eq_getElem hj]; rfl
theorem test_x (t : ByteArray) : (t.toList == [120]) = (t.data.toList == (⟨#[120]⟩ : ByteArray).data.toList) := by rw [ByteArray.toList_eq]
theorem test_e (t : ByteArray) : t.toList.isEmpty = (t.data.toList == (⟨#[]⟩ : ByteArray).data.toList) := by
  rw [ByteArray.toList_eq]; cases t.data.toList <;> rfl
theorem test_s (t s : ByteArray) : (t.toList == s.toList) = (t.data.toList == s.data.toList) := by rw [ByteArray.toList_eq, ByteArray.toList_eq]

set_option maxHeartbeats 1600000 in
set_option maxRecDepth 100000 in
/-- some kinds; no strings to pick from -/
theorem model_pos0 (b off n cap : Nat) (ks : List Int) (sa : Option Addr) (sc : Nat) (ss : List ByteArray) (w : World) (hn : n ≤ 1024) (hb : b < w.heap.size)
    (hc : ∀ j, j < n → w.cell? ⟨b, off + j, none⟩ = some (.int .u8 (ks.getD j 0))) (hks : ∀ j, 0 ≤ ks.getD j 0 ∧ ks.getD j 0 ≤ 255) (hss : ss.length = 0) :
    Calls Yba.prog 7 #[.slice (some ⟨b, off, none⟩) n cap, .slice sa 0 sc] w fun e w' => ∃ v, e = .returned (.tuple #[v, .bool (oth ks ss n)]) ∧ w'.ownsRow w.heap.size 9 1 v (dist ks ss n).length ((dist ks ss n).map Value.string) ∧ Below w.heap.size w w' := by
  obtain ⟨i0, hi, hz0, hz1, hz2⟩ := info_parts Yba.info9
  go_enter Yba.func7, Yba.ntmps7
  go_wp2
  go_loopw [6, 7, 8] (fun v o i wr => ∃ k : Nat, k ≤ n ∧ i = .int .i64 k ∧ o = .bool (oth ks ss k) ∧ wr.ownsRow w.heap.size 9 1 v (dist ks ss k).length ((dist ks ss k).map Value.string) ∧ Below w.heap.size w wr)
    (fun _ _ i _ => n - (intOf i).toNat)
  case atStart => exact ⟨0, Nat.zero_le _, rfl, rfl, World.ownsRow_nil _ _ _ _, Below.refl _ _⟩
  case round =>
    obtain ⟨k, hk, rfl, rfl, hown, hnx⟩ := hrel
    by_cases hlt : k < n
    · obtain ⟨c, hcd⟩ : ∃ c, c = ks.getD k 0 := ⟨_, rfl⟩
      have hcx : wr.cell? ⟨b, off + k, none⟩ = some (.int .u8 c) := by rw [hcd]; exact (hnx.cell (by exact hb)).trans (hc k hlt)
      obtain ⟨c0, c1⟩ : 0 ≤ c ∧ c ≤ 255 := by rw [hcd]; exact hks k
      have HC : Hid (c = ks.getD k 0) := hcd
      clear hcd hc hks
      have hsz := hnx.size
      have hdl := dist_le ks ss k
      rcases (show c % 3 = 0 ∨ c % 3 = 1 ∨ c % 3 = 2 by omega) with h | h | h
      · have t0 : (c % 3 == 0) = true := by rw [h]; rfl
        have HS : Hid (strOf ks ss k = some ⟨#[120]⟩) := by
          have e : pickS ss k = ⟨#[120]⟩ := by unfold pickS; rw [if_pos hss]
          rw [← e]
          exact str0 (by rw [← HC.out]; exact h)
        clear h
        obtain ⟨D, hD⟩ : ∃ D, D = dist ks ss k := ⟨_, rfl⟩
        rw [← hD] at hown hdl
        have HD : Hid (D = dist ks ss k) := hD
        clear hD
        rcases hown.2 with ⟨rfl, hm0⟩ | ⟨g, cp, cur, rfl, hg1, hg2, hg3, hg4, hg5, hg6⟩
        · have hno' : hasS D ⟨#[120]⟩ = false := by rw [List.eq_nil_of_length_eq_zero hm0]; rfl
          go_wp2
          refine wp_loop_rounds 1 ?_
          rw [rounds_succ]
          go_wp2_with (at_builtin; refine wpList_append_own _ rfl _ _ 23 rfl w.heap.size 9 i0 (.string ⟨#[]⟩) 1 16 Yba.underlying23 hi hz0 hz1 hz2 rfl (by decide) _ _ _ rfl (hown.alloc _) ⟨wr.heap.size, 0, none⟩ 1 1 [.string ⟨#[120]⟩] rfl rfl (cell_one_new _ _ _) (one_oneCell rfl) (by unfold maxLen; omega) (by omega) (by simp; omega) ?_)
          intro v' w1 hown' hgrow hnil
          have R := model_new HS.out HD.out hno' (by rw [hm0]; exact hown')
          have R2 := (hnx.alloc hsz _).grown hgrow (by simp; omega) (fun j hj => (hown.lt j hj).1)
          clear hown' hgrow hown hnx
          go_wp2
          go_roundw
          case rel => exact ⟨k + 1, by omega, by go_num, by rw [oth_some HS.out], R, R2⟩
          case measure => simp [intOf]; omega
        · clear hg1 hg2 hg3 hg4 hg5 hg6
          go_wp2
          go_loop [10, 11] (fun sn i => ∃ j : Nat, j ≤ D.length ∧ i = .int .i64 j ∧ sn = .bool false ∧ hasS (D.take j) ⟨#[120]⟩ = false) (fun _ i => D.length - (intOf i).toNat)
          case atStart => exact ⟨0, Nat.zero_le _, rfl, rfl, rfl⟩
          case round =>
            obtain ⟨j, hj, rfl, rfl, hno⟩ := hrel
            have HNO : Hid (hasS (D.take j) ⟨#[120]⟩ = false) := hno
            clear hno
            by_cases hjl : j < D.length
            · obtain ⟨t, htd⟩ : ∃ t, t = D.getD j ⟨#[]⟩ := ⟨_, rfl⟩
              have hct : wr.cell? ⟨g, j, none⟩ = some (.string t) := by rw [htd]; exact row_cell hown hjl
              have HT : Hid (t = D.getD j ⟨#[]⟩) := htd
              clear htd
              cases htest : (t.toList == [120])
              · have HN := hasS_step hjl HT.out (by rw [← test_x]; exact htest) HNO.out
                go_wp2
                go_round
                case rel => exact ⟨j + 1, by omega, by go_num, rfl, HN⟩
                case measure => simp [intOf]; omega
              · have R := model_found HS.out HD.out (hasS_hit hjl HT.out (by rw [← test_x]; exact htest)) hown
                go_wp2
                go_roundw
                case rel => exact ⟨k + 1, by omega, by go_num, by rw [oth_some HS.out], R, hnx⟩
                case measure => simp [intOf]; omega
            · have hno' := hasS_all hjl HNO.out
              go_wp2_with (at_builtin; refine wpList_append_own _ rfl _ _ 23 rfl w.heap.size 9 i0 (.string ⟨#[]⟩) 1 16 Yba.underlying23 hi hz0 hz1 hz2 rfl (by decide) _ _ _ rfl (hown.alloc _) ⟨wr.heap.size, 0, none⟩ 1 1 [.string ⟨#[120]⟩] rfl rfl (cell_one_new _ _ _) (one_oneCell rfl) (by unfold maxLen; omega) (by omega) (by simp; omega) ?_)
              intro v' w1 hown' hgrow hnil
              have R := model_new HS.out HD.out hno' hown'
              have R2 := (hnx.alloc hsz _).grown hgrow (by simp; omega) (fun j hj => (hown.lt j hj).1)
              clear hown' hgrow hown hnx
              go_wp2
              go_roundw
              case rel => exact ⟨k + 1, by omega, by go_num, by rw [oth_some HS.out], R, R2⟩
              case measure => simp [intOf]; omega

      · have t0 : (c % 3 == 0) = false := by rw [h]; rfl
        have t1 : (c % 3 == 1) = true := by rw [h]; rfl
        have HS : Hid (strOf ks ss k = some ⟨#[]⟩) := str1 (by rw [← HC.out]; exact h)
        clear h
        obtain ⟨D, hD⟩ : ∃ D, D = dist ks ss k := ⟨_, rfl⟩
        rw [← hD] at hown hdl
        have HD : Hid (D = dist ks ss k) := hD
        clear hD
        rcases hown.2 with ⟨rfl, hm0⟩ | ⟨g, cp, cur, rfl, hg1, hg2, hg3, hg4, hg5, hg6⟩
        · have hno' : hasS D ⟨#[]⟩ = false := by rw [List.eq_nil_of_length_eq_zero hm0]; rfl
          go_wp2
          refine wp_loop_rounds 1 ?_
          rw [rounds_succ]
          go_wp2_with (at_builtin; refine wpList_append_own _ rfl _ _ 23 rfl w.heap.size 9 i0 (.string ⟨#[]⟩) 1 16 Yba.underlying23 hi hz0 hz1 hz2 rfl (by decide) _ _ _ rfl (hown.alloc _) ⟨wr.heap.size, 0, none⟩ 1 1 [.string ⟨#[]⟩] rfl rfl (cell_one_new _ _ _) (one_oneCell rfl) (by unfold maxLen; omega) (by omega) (by simp; omega) ?_)
          intro v' w1 hown' hgrow hnil
          have R := model_new HS.out HD.out hno' (by rw [hm0]; exact hown')
          have R2 := (hnx.alloc hsz _).grown hgrow (by simp; omega) (fun j hj => (hown.lt j hj).1)
          clear hown' hgrow hown hnx
          go_wp2
          go_roundw
          case rel => exact ⟨k + 1, by omega, by go_num, by rw [oth_some HS.out], R, R2⟩
          case measure => simp [intOf]; omega
        · clear hg1 hg2 hg3 hg4 hg5 hg6
          go_wp2
          go_loop [10, 11] (fun sn i => ∃ j : Nat, j ≤ D.length ∧ i = .int .i64 j ∧ sn = .bool false ∧ hasS (D.take j) ⟨#[]⟩ = false) (fun _ i => D.length - (intOf i).toNat)
          case atStart => exact ⟨0, Nat.zero_le _, rfl, rfl, rfl⟩
          case round =>
            obtain ⟨j, hj, rfl, rfl, hno⟩ := hrel
            have HNO : Hid (hasS (D.take j) ⟨#[]⟩ = false) := hno
            clear hno
            by_cases hjl : j < D.length
            · obtain ⟨t, htd⟩ : ∃ t, t = D.getD j ⟨#[]⟩ := ⟨_, rfl⟩
              have hct : wr.cell? ⟨g, j, none⟩ = some (.string t) := by rw [htd]; exact row_cell hown hjl
              have HT : Hid (t = D.getD j ⟨#[]⟩) := htd
              clear htd
              cases htest : t.toList.isEmpty
              · have HN := hasS_step hjl HT.out (by rw [← test_e]; exact htest) HNO.out
                go_wp2
                go_round
                case rel => exact ⟨j + 1, by omega, by go_num, rfl, HN⟩
                case measure => simp [intOf]; omega
              · have R := model_found HS.out HD.out (hasS_hit hjl HT.out (by rw [← test_e]; exact htest)) hown
                go_wp2
                go_roundw
                case rel => exact ⟨k + 1, by omega, by go_num, by rw [oth_some HS.out], R, hnx⟩
                case measure => simp [intOf]; omega
            · have hno' := hasS_all hjl HNO.out
              go_wp2_with (at_builtin; refine wpList_append_own _ rfl _ _ 23 rfl w.heap.size 9 i0 (.string ⟨#[]⟩) 1 16 Yba.underlying23 hi hz0 hz1 hz2 rfl (by decide) _ _ _ rfl (hown.alloc _) ⟨wr.heap.size, 0, none⟩ 1 1 [.string ⟨#[]⟩] rfl rfl (cell_one_new _ _ _) (one_oneCell rfl) (by unfold maxLen; omega) (by omega) (by simp; omega) ?_)
              intro v' w1 hown' hgrow hnil
              have R := model_new HS.out HD.out hno' hown'
              have R2 := (hnx.alloc hsz _).grown hgrow (by simp; omega) (fun j hj => (hown.lt j hj).1)
              clear hown' hgrow hown hnx
              go_wp2
              go_roundw
              case rel => exact ⟨k + 1, by omega, by go_num, by rw [oth_some HS.out], R, R2⟩
              case measure => simp [intOf]; omega

      · have t0 : (c % 3 == 0) = false := by rw [h]; rfl
        have t1 : (c % 3 == 1) = false := by rw [h]; rfl
        have HS : Hid (strOf ks ss k = none) := str2 (by rw [← HC.out]; exact h)
        clear h
        have R : wr.ownsRow w.heap.size 9 1 u6 (dist ks ss (k + 1)).length ((dist ks ss (k + 1)).map Value.string) := by rw [dist_none HS.out]; exact hown
        go_wp2
        go_roundw
        case rel => exact ⟨k + 1, by omega, by go_num, by rw [oth_none HS.out], R, hnx⟩
        case measure => simp [intOf]; omega
    · obtain rfl : k = n := by omega
      go_wp2
      go_ret2
      exact ⟨_, rfl, hown, hnx⟩

set_option maxHeartbeats 1600000 in
set_option maxRecDepth 100000 in
/-- some kinds; some strings -/
theorem model_pos1 (b off n cap : Nat) (ks : List Int) (sb so sl sc : Nat) (ss : List ByteArray) (w : World) (hn : n ≤ 1024) (hb : b < w.heap.size)
    (hc : ∀ j, j < n → w.cell? ⟨b, off + j, none⟩ = some (.int .u8 (ks.getD j 0))) (hks : ∀ j, 0 ≤ ks.getD j 0 ∧ ks.getD j 0 ≤ 255) (hss : ss.length = sl) (hsl : 0 < sl) (hsm : sl ≤ 9223372036854775807) (hsb : sb < w.heap.size) (hs : ∀ j, j < sl → w.cell? ⟨sb, so + j, none⟩ = some (.string (ss.getD j ⟨#[]⟩))) :
    Calls Yba.prog 7 #[.slice (some ⟨b, off, none⟩) n cap, .slice (some ⟨sb, so, none⟩) sl sc] w fun e w' => ∃ v, e = .returned (.tuple #[v, .bool (oth ks ss n)]) ∧ w'.ownsRow w.heap.size 9 1 v (dist ks ss n).length ((dist ks ss n).map Value.string) ∧ Below w.heap.size w w' := by
  obtain ⟨i0, hi, hz0, hz1, hz2⟩ := info_parts Yba.info9
  go_enter Yba.func7, Yba.ntmps7
  go_wp2
  go_loopw [6, 7, 8] (fun v o i wr => ∃ k : Nat, k ≤ n ∧ i = .int .i64 k ∧ o = .bool (oth ks ss k) ∧ wr.ownsRow w.heap.size 9 1 v (dist ks ss k).length ((dist ks ss k).map Value.string) ∧ Below w.heap.size w wr)
    (fun _ _ i _ => n - (intOf i).toNat)
  case atStart => exact ⟨0, Nat.zero_le _, rfl, rfl, World.ownsRow_nil _ _ _ _, Below.refl _ _⟩
  case round =>
    obtain ⟨k, hk, rfl, rfl, hown, hnx⟩ := hrel
    by_cases hlt : k < n
    · obtain ⟨c, hcd⟩ : ∃ c, c = ks.getD k 0 := ⟨_, rfl⟩
      have hcx : wr.cell? ⟨b, off + k, none⟩ = some (.int .u8 c) := by rw [hcd]; exact (hnx.cell (by exact hb)).trans (hc k hlt)
      obtain ⟨c0, c1⟩ : 0 ≤ c ∧ c ≤ 255 := by rw [hcd]; exact hks k
      have HC : Hid (c = ks.getD k 0) := hcd
      clear hcd hc hks
      have hsz := hnx.size
      have hdl := dist_le ks ss k
      rcases (show c % 3 = 0 ∨ c % 3 = 1 ∨ c % 3 = 2 by omega) with h | h | h
      · have t0 : (c % 3 == 0) = true := by rw [h]; rfl
        obtain ⟨s, hsd⟩ : ∃ s, s = pickS ss k := ⟨_, rfl⟩
        have HS : Hid (strOf ks ss k = some s) := by rw [hsd]; exact str0 (by rw [← HC.out]; exact h)
        have hcs : wr.cell? ⟨sb, so + k % sl, none⟩ = some (.string s) := by
          rw [hsd]
          unfold pickS
          rw [if_neg (by omega), hss]
          exact (hnx.cell (by exact hsb)).trans (hs _ (Nat.mod_lt _ hsl))
        have hml : k % sl < sl := Nat.mod_lt _ hsl
        clear hsd
        clear h
        obtain ⟨D, hD⟩ : ∃ D, D = dist ks ss k := ⟨_, rfl⟩
        rw [← hD] at hown hdl
        have HD : Hid (D = dist ks ss k) := hD
        clear hD
        rcases hown.2 with ⟨rfl, hm0⟩ | ⟨g, cp, cur, rfl, hg1, hg2, hg3, hg4, hg5, hg6⟩
        · have hno' : hasS D s = false := by rw [List.eq_nil_of_length_eq_zero hm0]; rfl
          go_wp2
          refine wp_loop_rounds 1 ?_
          rw [rounds_succ]
          go_wp2_with (at_builtin; refine wpList_append_own _ rfl _ _ 23 rfl w.heap.size 9 i0 (.string ⟨#[]⟩) 1 16 Yba.underlying23 hi hz0 hz1 hz2 rfl (by decide) _ _ _ rfl (hown.alloc _) ⟨wr.heap.size, 0, none⟩ 1 1 [.string s] rfl rfl (cell_one_new _ _ _) (one_oneCell rfl) (by unfold maxLen; omega) (by omega) (by simp; omega) ?_)
          intro v' w1 hown' hgrow hnil
          have R := model_new HS.out HD.out hno' (by rw [hm0]; exact hown')
          have R2 := (hnx.alloc hsz _).grown hgrow (by simp; omega) (fun j hj => (hown.lt j hj).1)
          clear hown' hgrow hown hnx
          go_wp2
          go_roundw
          case rel => exact ⟨k + 1, by omega, by go_num, by rw [oth_some HS.out], R, R2⟩
          case measure => simp [intOf]; omega
        · clear hg1 hg2 hg3 hg4 hg5 hg6
          go_wp2
          go_loop [10, 11] (fun sn i => ∃ j : Nat, j ≤ D.length ∧ i = .int .i64 j ∧ sn = .bool false ∧ hasS (D.take j) s = false) (fun _ i => D.length - (intOf i).toNat)
          case atStart => exact ⟨0, Nat.zero_le _, rfl, rfl, rfl⟩
          case round =>
            obtain ⟨j, hj, rfl, rfl, hno⟩ := hrel
            have HNO : Hid (hasS (D.take j) s = false) := hno
            clear hno
            by_cases hjl : j < D.length
            · obtain ⟨t, htd⟩ : ∃ t, t = D.getD j ⟨#[]⟩ := ⟨_, rfl⟩
              have hct : wr.cell? ⟨g, j, none⟩ = some (.string t) := by rw [htd]; exact row_cell hown hjl
              have HT : Hid (t = D.getD j ⟨#[]⟩) := htd
              clear htd
              cases htest : (t.toList == s.toList)
              · have HN := hasS_step hjl HT.out (by rw [← test_s]; exact htest) HNO.out
                go_wp2
                go_round
                case rel => exact ⟨j + 1, by omega, by go_num, rfl, HN⟩
                case measure => simp [intOf]; omega
              · have R := model_found HS.out HD.out (hasS_hit hjl HT.out (by rw [← test_s]; exact htest)) hown
                go_wp2
                go_roundw
                case rel => exact ⟨k + 1, by omega, by go_num, by rw [oth_some HS.out], R, hnx⟩
                case measure => simp [intOf]; omega
            · have hno' := hasS_all hjl HNO.out
              go_wp2_with (at_builtin; refine wpList_append_own _ rfl _ _ 23 rfl w.heap.size 9 i0 (.string ⟨#[]⟩) 1 16 Yba.underlying23 hi hz0 hz1 hz2 rfl (by decide) _ _ _ rfl (hown.alloc _) ⟨wr.heap.size, 0, none⟩ 1 1 [.string s] rfl rfl (cell_one_new _ _ _) (one_oneCell rfl) (by unfold maxLen; omega) (by omega) (by simp; omega) ?_)
              intro v' w1 hown' hgrow hnil
              have R := model_new HS.out HD.out hno' hown'
              have R2 := (hnx.alloc hsz _).grown hgrow (by simp; omega) (fun j hj => (hown.lt j hj).1)
              clear hown' hgrow hown hnx
              go_wp2
              go_roundw
              case rel => exact ⟨k + 1, by omega, by go_num, by rw [oth_some HS.out], R, R2⟩
              case measure => simp [intOf]; omega

      · have t0 : (c % 3 == 0) = false := by rw [h]; rfl
        have t1 : (c % 3 == 1) = true := by rw [h]; rfl
        have HS : Hid (strOf ks ss k = some ⟨#[]⟩) := str1 (by rw [← HC.out]; exact h)
        clear h
        obtain ⟨D, hD⟩ : ∃ D, D = dist ks ss k := ⟨_, rfl⟩
        rw [← hD] at hown hdl
        have HD : Hid (D = dist ks ss k) := hD
        clear hD
        rcases hown.2 with ⟨rfl, hm0⟩ | ⟨g, cp, cur, rfl, hg1, hg2, hg3, hg4, hg5, hg6⟩
        · have hno' : hasS D ⟨#[]⟩ = false := by rw [List.eq_nil_of_length_eq_zero hm0]; rfl
          go_wp2
          refine wp_loop_rounds 1 ?_
          rw [rounds_succ]
          go_wp2_with (at_builtin; refine wpList_append_own _ rfl _ _ 23 rfl w.heap.size 9 i0 (.string ⟨#[]⟩) 1 16 Yba.underlying23 hi hz0 hz1 hz2 rfl (by decide) _ _ _ rfl (hown.alloc _) ⟨wr.heap.size, 0, none⟩ 1 1 [.string ⟨#[]⟩] rfl rfl (cell_one_new _ _ _) (one_oneCell rfl) (by unfold maxLen; omega) (by omega) (by simp; omega) ?_)
          intro v' w1 hown' hgrow hnil
          have R := model_new HS.out HD.out hno' (by rw [hm0]; exact hown')
          have R2 := (hnx.alloc hsz _).grown hgrow (by simp; omega) (fun j hj => (hown.lt j hj).1)
          clear hown' hgrow hown hnx
          go_wp2
          go_roundw
          case rel => exact ⟨k + 1, by omega, by go_num, by rw [oth_some HS.out], R, R2⟩
          case measure => simp [intOf]; omega
        · clear hg1 hg2 hg3 hg4 hg5 hg6
          go_wp2
          go_loop [10, 11] (fun sn i => ∃ j : Nat, j ≤ D.length ∧ i = .int .i64 j ∧ sn = .bool false ∧ hasS (D.take j) ⟨#[]⟩ = false) (fun _ i => D.length - (intOf i).toNat)
          case atStart => exact ⟨0, Nat.zero_le _, rfl, rfl, rfl⟩
          case round =>
            obtain ⟨j, hj, rfl, rfl, hno⟩ := hrel
            have HNO : Hid (hasS (D.take j) ⟨#[]⟩ = false) := hno
            clear hno
            by_cases hjl : j < D.length
            · obtain ⟨t, htd⟩ : ∃ t, t = D.getD j ⟨#[]⟩ := ⟨_, rfl⟩
              have hct : wr.cell? ⟨g, j, none⟩ = some (.string t) := by rw [htd]; exact row_cell hown hjl
              have HT : Hid (t = D.getD j ⟨#[]⟩) := htd
              clear htd
              cases htest : t.toList.isEmpty
              · have HN := hasS_step hjl HT.out (by rw [← test_e]; exact htest) HNO.out
                go_wp2
                go_round
                case rel => exact ⟨j + 1, by omega, by go_num, rfl, HN⟩
                case measure => simp [intOf]; omega
              · have R := model_found HS.out HD.out (hasS_hit hjl HT.out (by rw [← test_e]; exact htest)) hown
                go_wp2
                go_roundw
                case rel => exact ⟨k + 1, by omega, by go_num, by rw [oth_some HS.out], R, hnx⟩
                case measure => simp [intOf]; omega
            · have hno' := hasS_all hjl HNO.out
              go_wp2_with (at_builtin; refine wpList_append_own _ rfl _ _ 23 rfl w.heap.size 9 i0 (.string ⟨#[]⟩) 1 16 Yba.underlying23 hi hz0 hz1 hz2 rfl (by decide) _ _ _ rfl (hown.alloc _) ⟨wr.heap.size, 0, none⟩ 1 1 [.string ⟨#[]⟩] rfl rfl (cell_one_new _ _ _) (one_oneCell rfl) (by unfold maxLen; omega) (by omega) (by simp; omega) ?_)
              intro v' w1 hown' hgrow hnil
              have R := model_new HS.out HD.out hno' hown'
              have R2 := (hnx.alloc hsz _).grown hgrow (by simp; omega) (fun j hj => (hown.lt j hj).1)
              clear hown' hgrow hown hnx
              go_wp2
              go_roundw
              case rel => exact ⟨k + 1, by omega, by go_num, by rw [oth_some HS.out], R, R2⟩
              case measure => simp [intOf]; omega

      · have t0 : (c % 3 == 0) = false := by rw [h]; rfl
        have t1 : (c % 3 == 1) = false := by rw [h]; rfl
        have HS : Hid (strOf ks ss k = none) := str2 (by rw [← HC.out]; exact h)
        clear h
        have R : wr.ownsRow w.heap.size 9 1 u6 (dist ks ss (k + 1)).length ((dist ks ss (k + 1)).map Value.string) := by rw [dist_none HS.out]; exact hown
        go_wp2
        go_roundw
        case rel => exact ⟨k + 1, by omega, by go_num, by rw [oth_none HS.out], R, hnx⟩
        case measure => simp [intOf]; omega
    · obtain rfl : k = n := by omega
      go_wp2
      go_ret2
      exact ⟨_, rfl, hown, hnx⟩

set_option maxHeartbeats 400000 in
set_option maxRecDepth 100000 in
theorem model_none (a : Option Addr) (cap : Nat) (v1 : Value) (w : World) :
    Calls Yba.prog 7 #[.slice a 0 cap, v1] w fun e w' => ∃ v, e = .returned (.tuple #[v, .bool false]) ∧ w'.ownsRow w.heap.size 9 1 v 0 [] ∧ Below w.heap.size w w' := by
  go_enter Yba.func7, Yba.ntmps7
  go_wp2
  refine wp_loop_rounds 1 ?_
  rw [rounds_succ]
  go_wp2
  go_ret2
  exact ⟨_, rfl, World.ownsRow_nil _ _ _ _, Below.refl _ _⟩

theorem model_any {a sa : Option Addr} {n cap sl sc : Nat} {ks : List Int} {ss : List ByteArray} {w : World} (hk : KindsAt w a n ks) (hs : StrsAt w sa sl ss) :
    Calls Yba.prog 7 #[.slice a n cap, .slice sa sl sc] w fun e w' => ∃ v, e = .returned (.tuple #[v, .bool (oth ks ss n)]) ∧ w'.ownsRow w.heap.size 9 1 v (dist ks ss n).length ((dist ks ss n).map Value.string) ∧ Below w.heap.size w w' := by
  obtain ⟨hn, hks, hk⟩ := hk
  obtain ⟨hss, _, hs⟩ := hs
  rcases hk with rfl | ⟨b, off, rfl, hb, hc⟩
  · exact model_none a cap _ w
  · rcases hs with rfl | ⟨sb, so, rfl, hsl, hsm, hsb, hs⟩
    · exact model_pos0 b off n cap ks sa sc ss w hn hb hc hks hss
    · exact model_pos1 b off n cap ks sb so sl sc ss w hn hb hc hks hss hsl hsm hsb hs
end Go.Proofs.Ybulkbeke
