/-
  THE WALK of LawS2773CKept (function 3).
-/
import Derived.Test.YbulkbekeLook
namespace Go.Proofs.Ybulkbeke
open Go.RowKit Go.Maps Go.WideMaps

theorem dist_size {ks : List Int} {ss : List ByteArray} (h : ∀ s ∈ ss, s.size ≤ maxLen) (n : Nat) : ∀ j, ((dist ks ss n).getD j ⟨#[]⟩).size ≤ maxLen := by
  have hall : ∀ n, ∀ s ∈ dist ks ss n, s.size ≤ maxLen := by
    intro n
    induction n with
    | zero => intro s hs; simp [dist] at hs
    | succ n ih =>
      intro s hs
      unfold dist at hs
      split at hs
      · rename_i t ht
        unfold addS at hs
        split at hs
        · exact ih s hs
        · rcases List.mem_append.1 hs with h' | h'
          · exact ih s h'
          · have e : s = t := by simpa using h'
            subst e
            unfold strOf at ht
            split at ht
            · cases ht; exact pick_size h n
            · split at ht
              · cases ht; decide
              · cases ht
      · exact ih s hs
  intro j
  rw [List.getD_eq_getElem?_getD]
  cases e : (dist ks ss n)[j]? with
  | none => decide
  | some s => exact hall n s (List.mem_of_getElem? e)
theorem look_in {w3 : World} {bm n j : Nat} {S : DataW Unit} {D : List ByteArray} {t : ByteArray} (hset : w3.ownsMap Yba.prog 9 unitElem bm n S) (hhas : ∀ p : ByteArray, Maps.has S (.string p.data.toList) = hasS D p) (hj : j < D.length) (ht : t = D.getD j ⟨#[]⟩) (hz : t.size ≤ maxLen) :
    ∀ W, Below w3.heap.size w3 W → (Instr.lookup 27 (.map (some bm)) (.string t) true).run Yba.prog W = .ok (.tuple #[.agg #[], .bool true]) W := by
  intro W hB
  have hown : W.ownsMap Yba.prog 9 unitElem bm n S := hset.kept (⟨hB.os, hB.tape, hB.output, hB.size, fun k hk _ => hB.block k hk⟩ : w3.grownBy W none) (by simp)
  obtain ⟨v, ps, hrun, hv⟩ := hown.look_ok law9 Yba.underlying27 (zero35 _) unitElem_mk (keyOf_string_mk Yba.underlying9 hz)
  obtain ⟨rfl, _⟩ := unitElem_inv hv
  rw [hhas, hasS_hit hj ht (by simp)] at hrun
  exact hrun

set_option maxHeartbeats 1000000 in
set_option maxRecDepth 100000 in
theorem law_kept (a sa : Option Addr) (n cap sl sc : Nat) (inn : Int) (ks : List Int) (ss : List ByteArray) (w : World) (hn : n ≤ 1024) (hk : Hid (KindsAt w a n ks)) (hs : Hid (StrsAt w sa sl ss)) :
    Calls Yba.prog 3 #[.slice a n cap, .slice sa sl sc, .int .i8 inn] w fun e w' => e = .returned (.bool true) ∧ Below w.heap.size w w' := by
  have hmn := fun w bm => run_eql_map_nil (P := Yba.prog) w 27 9 35 (some bm) Yba.underlying27
  have t0 : decide (1024 < (n : Int)) = false := by simp; omega
  have hks := hk.out.2.1
  have hss := hs.out.2.1
  have HKS : Hid (∀ j, 0 ≤ ks.getD j 0 ∧ ks.getD j 0 ≤ 255) := hks
  have HSS : Hid (∀ s ∈ ss, s.size ≤ maxLen) := hss
  clear hks hss
  go_enter Yba.func3, Yba.ntmps3
  go_wp2_with fail
  have hB0 := (Below.refl w.heap.size w).alloc (Nat.le_refl _) (kept inn (.map none) false)
  have e1 : (w.alloc (kept inn (.map none) false)).heap.size = w.heap.size + 1 := by simp
  refine (build_any (hk.out.below hB0) (hs.out.below hB0)).mono ?_
  rintro e w1 ⟨rfl, hrow, hb1⟩
  rw [e1] at hrow hb1 ⊢
  have HR := first_part hb1 hrow
  clear hrow hb1
  go_wp2_with fail
  refine (keep_any w.heap.size (w.heap.size + 1) n n inn ks ss w1 hn HKS.out HSS.out HR.1 (by omega) HR.2.1).mono ?_
  rintro e w2 ⟨rfl, hk2, hown2, hg2⟩
  have hB2 := after_keep HR.2.2 hg2
  go_wp2_with fail
  refine (model_any (hk.out.below hB2) (hs.out.below hB2)).mono ?_
  rintro e w3 ⟨v, rfl, hrow3, hb3⟩
  have A := after_all HR.2.2 hk2 hown2 hg2 hrow3 hb3
  clear hk2 hown2 hg2 hrow3 hb3 hB2 HR hk hs HKS
  have HSS' := HSS.out
  clear HSS
  obtain ⟨bm, hbm⟩ : ∃ bm, bm = w1.heap.size := ⟨_, rfl⟩
  rw [← hbm] at A
  clear hbm
  obtain ⟨B, hrow⟩ := A.row
  have hdl := dist_le ks ss n
  have hlen := fun ty => A.set.len Yba.underlying27 ty
  rw [size_setK] at hlen
  obtain ⟨k0, k1, k2, kf1, kf2⟩ := kept_cells A.blk
  have HB : Hid (Below w.heap.size w w3) := A.bel
  have HSet : Hid (w3.ownsMap Yba.prog 9 unitElem bm n (setK ks ss n)) := A.set
  have HHas : Hid (∀ p, Maps.has (setK ks ss n) (.string p.data.toList) = hasS (dist ks ss n) p) := has_setK ks ss n
  have HSz : Hid (∀ j, ((dist ks ss n).getD j ⟨#[]⟩).size ≤ maxLen) := dist_size HSS' n
  clear A HSS'
  generalize oth ks ss n = o at *
  generalize setK ks ss n = S at *
  generalize dist ks ss n = D at *
  rcases hrow.2 with ⟨rfl, hm0⟩ | ⟨g, cp, cur, rfl, hg1, hg2, hg3, hg4, hg5, hg6⟩
  · cases o
    all_goals
      go_wp2
      refine wp_loop_rounds 1 ?_
      rw [rounds_succ]
      go_wp2
      go_ret
      exact ⟨rfl, HB.out⟩
  · clear hg1 hg2 hg3 hg4 hg5 hg6
    cases o
    all_goals
      go_wp2
      go_loopw [10] (fun i wr => ∃ j : Nat, j ≤ D.length ∧ i = .int .i64 j ∧ Below w3.heap.size w3 wr) (fun i _ => D.length - (intOf i).toNat)
      case atStart => exact ⟨0, Nat.zero_le _, rfl, Below.refl _ _⟩
      case round =>
        obtain ⟨j, hj, rfl, hnx⟩ := hrel
        by_cases hjl : j < D.length
        · obtain ⟨t, htd⟩ : ∃ t, t = D.getD j ⟨#[]⟩ := ⟨_, rfl⟩
          have hct : wr.cell? ⟨g, j, none⟩ = some (.string t) := by rw [htd]; exact (hnx.cell (by exact (hrow.lt g rfl).2)).trans (row_cell hrow hjl)
          have hck : wr.cell? ⟨w.heap.size, 1, none⟩ = some (.map (some bm)) := (hnx.cell (World.block_lt_of_cell? w3 _ k1)).trans k1
          have hl : ∀ W, Below w3.heap.size w3 W → (Instr.lookup 27 (.map (some bm)) (.string t) true).run Yba.prog W = .ok (.tuple #[.agg #[], .bool true]) W := look_in HSet.out HHas.out hjl htd (by rw [htd]; exact HSz.out j)
          have hl1 := hl _ hnx.drew
          have hl2 := hl _ (hnx.alloc hnx.size (.cells #[] 35)).drew
          have hct2 : (wr.alloc (.cells #[] 35)).cell? ⟨g, j, none⟩ = some (.string t) := (((Below.refl wr.heap.size wr).alloc (Nat.le_refl _) _).cell (World.block_lt_of_cell? wr _ hct)).trans hct
          have hck2 : (wr.alloc (.cells #[] 35)).cell? ⟨w.heap.size, 1, none⟩ = some (.map (some bm)) := (((Below.refl wr.heap.size wr).alloc (Nat.le_refl _) _).cell (World.block_lt_of_cell? wr _ hck)).trans hck
          clear hl htd hrow k0 k1 k2 kf1 kf2 hlen hmn
          go_wp2
          go_region
          all_goals
            go_wp2
            go_roundw
            case rel => exact ⟨j + 1, by omega, by go_num, (hnx.alloc hnx.size _).drew⟩
            case measure => simp [intOf]; omega
        · go_wp2
          go_ret
          exact ⟨rfl, HB.out.trans (hnx.mono HB.out.size)⟩
end Go.Proofs.Ybulkbeke
