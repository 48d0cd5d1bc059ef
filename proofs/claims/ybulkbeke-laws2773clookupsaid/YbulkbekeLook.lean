/-
  THE WALKS of lookUp (function 8) and LawS2773CLookUp (function 4).
-/
import Derived.Test.YbulkbekeKeep
namespace Go.Proofs.Ybulkbeke
open Go.RowKit Go.Maps Go.WideMaps

def look : Bool → Bool → Int
  | true, _ => 2
  | false, true => 1
  | false, false => 0

set_option maxHeartbeats 400000 in
set_option maxRecDepth 100000 in
theorem lookUp_any (bk bm n : Nat) (inn : Int) (o hb : Bool) (p : ByteArray) (D : DataW Unit) (w : World) (hp : p.size ≤ maxLen) (hkb : w.heap[bk]? = some (kept inn (.map (some bm)) o))
    (hown : w.ownsMap Yba.prog 9 unitElem bm n D) (hh : Maps.has D (.string p.data.toList) = hb) :
    Calls Yba.prog 8 #[.pointer (some ⟨bk, 0, none⟩), .string p] w fun e w' => e = .returned (.int .i8 (look hb o)) ∧ Below w.heap.size w w' := by
  obtain ⟨k0, k1, k2, kf1, kf2⟩ := kept_cells hkb
  have hkey : keyOf Yba.prog 9 (.string p) = some (.string p.data.toList) := keyOf_string_mk Yba.underlying9 hp
  have k2' := ((Below.refl w.heap.size w).alloc (Nat.le_refl _) (.cells #[] 35)).cell (p := ⟨bk, 2, none⟩) (lt_of_block hkb)
  rw [k2] at k2'
  clear hkb
  cases hb
  · cases o
    all_goals
      go_enter Yba.func8, Yba.ntmps8
      go_wp2_with (at_lookup; refine wpList_lookup_own_unit _ rfl _ _ 27 rfl 9 35 law9 Yba.underlying27 (zero35 _) bm n D rfl hown _ _ rfl hkey ?_)
      go_ret
      exact ⟨rfl, (Below.refl w.heap.size w).alloc (Nat.le_refl _) _⟩
  · go_enter Yba.func8, Yba.ntmps8
    go_wp2_with (at_lookup; refine wpList_lookup_own_unit _ rfl _ _ 27 rfl 9 35 law9 Yba.underlying27 (zero35 _) bm n D rfl hown _ _ rfl hkey ?_)
    go_ret
    exact ⟨rfl, (Below.refl w.heap.size w).alloc (Nat.le_refl _) _⟩

/-- WHAT STANDS BEHIND build, keepStrings AND model, whatever the law does next: the kept array's block, its set, the row of the distinct strings. -/
structure After (w w3 : World) (inn : Int) (ks : List Int) (ss : List ByteArray) (n bm : Nat) (v : Value) : Prop where
  blk : w3.heap[w.heap.size]? = some (kept inn (.map (some bm)) (oth ks ss n))
  set : w3.ownsMap Yba.prog 9 unitElem bm n (setK ks ss n)
  row : ∃ B, w3.ownsRow B 9 1 v (dist ks ss n).length ((dist ks ss n).map Value.string)
  bel : Below w.heap.size w w3

/-- the slice of elements' cells, out of the row that build owns -/
theorem els_cell {w : World} {B n : Nat} {ks : List Int} {ss : List ByteArray} (h : w.ownsRow B 20 1 (rowV B n n) n (els ks ss n)) : ∀ j, j < n → w.cell? ⟨B, j, none⟩ = some (elemV ks ss j) := by
  intro j hj
  rw [h.cellAt j (by omega), els_get ks ss j n hj]
theorem els_lt {w : World} {B n : Nat} {ks : List Int} {ss : List ByteArray} (h : w.ownsRow B 20 1 (rowV B n n) n (els ks ss n)) : B < w.heap.size := (h.lt B rfl).2

theorem first_part {w w1 : World} {inn : Int} {n : Nat} {ks : List Int} {ss : List ByteArray} (hb1 : Below (w.heap.size + 1) (w.alloc (kept inn (.map none) false)) w1)
    (hrow : w1.ownsRow (w.heap.size + 1) 20 1 (rowV (w.heap.size + 1) n n) n (els ks ss n)) :
    w1.heap[w.heap.size]? = some (kept inn (.map none) false) ∧ (∀ j, j < n → w1.cell? ⟨w.heap.size + 1, j, none⟩ = some (elemV ks ss j)) ∧ Below w.heap.size w w1 := by
  refine ⟨?_, els_cell hrow, ((Below.refl w.heap.size w).alloc (Nat.le_refl _) _).trans (hb1.mono (Nat.le_succ _))⟩
  rw [hb1.block _ (Nat.lt_succ_self _)]
  exact heap_alloc_new w _

theorem after_keep {w w1 w2 : World} (h : Below w.heap.size w w1) (hg : w1.grownBy w2 (some w.heap.size)) : Below w.heap.size w w2 := h.grown hg h.size (fun j hj => by cases hj; exact Nat.le_refl _)
theorem after_all {w w1 w2 w3 : World} {inn : Int} {ks : List Int} {ss : List ByteArray} {n : Nat} {v : Value} (hb : Below w.heap.size w w1) (hk2 : w2.heap[w.heap.size]? = some (kept inn (.map (some w1.heap.size)) (oth ks ss n)))
    (hown2 : w2.ownsMap Yba.prog 9 unitElem w1.heap.size n (setK ks ss n)) (hg2 : w1.grownBy w2 (some w.heap.size)) (hrow : w3.ownsRow w2.heap.size 9 1 v (dist ks ss n).length ((dist ks ss n).map Value.string)) (hb3 : Below w2.heap.size w2 w3) :
    After w w3 inn ks ss n w1.heap.size v := by
  refine ⟨?_, ?_, ⟨_, hrow⟩, (after_keep hb hg2).trans (hb3.mono ?_)⟩
  · rw [hb3.block _ (lt_of_block hk2)]; exact hk2
  · exact hown2.kept (⟨hb3.os, hb3.tape, hb3.output, hb3.size, fun k hk _ => hb3.block k hk⟩ : w2.grownBy w3 none) (by simp)
  · exact Nat.le_trans hb.size hg2.size

theorem look_here {w w3 : World} {inn : Int} {ks : List Int} {ss : List ByteArray} {n bm : Nat} {v : Value} {p : ByteArray} {o hb : Bool} (A : After w w3 inn ks ss n bm v) (hp : p.size ≤ maxLen) (ho : oth ks ss n = o) (hh : hasS (dist ks ss n) p = hb) :
    Calls Yba.prog 8 #[.pointer (some ⟨w.heap.size, 0, none⟩), .string p] w3 fun e w' => e = .returned (.int .i8 (look hb o)) ∧ Below w3.heap.size w3 w' :=
  lookUp_any w.heap.size bm n inn o hb p (setK ks ss n) w3 hp (by rw [← ho]; exact A.blk) A.set (by rw [has_setK]; exact hh)

set_option maxHeartbeats 1000000 in
set_option maxRecDepth 100000 in
theorem law_look (a sa : Option Addr) (n cap sl sc : Nat) (ks : List Int) (ss : List ByteArray) (p : ByteArray) (w : World) (hn : n ≤ 1024) (hp : p.size ≤ maxLen) (hk : Hid (KindsAt w a n ks)) (hs : Hid (StrsAt w sa sl ss)) :
    Calls Yba.prog 4 #[.slice a n cap, .slice sa sl sc, .string p] w fun e w' => e = .returned (.bool true) ∧ Below w.heap.size w w' := by
  have t0 : decide (1024 < (n : Int)) = false := by simp; omega
  have hks := hk.out.2.1
  have hss := hs.out.2.1
  have HKS : Hid (∀ j, 0 ≤ ks.getD j 0 ∧ ks.getD j 0 ≤ 255) := hks
  have HSS : Hid (∀ s ∈ ss, s.size ≤ maxLen) := hss
  clear hks hss
  go_enter Yba.func4, Yba.ntmps4
  go_wp2_with fail
  have hB0 := (Below.refl w.heap.size w).alloc (Nat.le_refl _) (kept 0 (.map none) false)
  have e1 : (w.alloc (kept 0 (.map none) false)).heap.size = w.heap.size + 1 := by simp
  refine (build_any (hk.out.below hB0) (hs.out.below hB0)).mono ?_
  rintro e w1 ⟨rfl, hrow, hb1⟩
  rw [e1] at hrow hb1 ⊢
  have HR := first_part hb1 hrow
  clear hrow hb1
  go_wp2_with fail
  refine (keep_any w.heap.size (w.heap.size + 1) n n 0 ks ss w1 hn HKS.out HSS.out HR.1 (by omega) HR.2.1).mono ?_
  rintro e w2 ⟨rfl, hk2, hown2, hg2⟩
  have hB2 := after_keep HR.2.2 hg2
  go_wp2_with fail
  refine (model_any (hk.out.below hB2) (hs.out.below hB2)).mono ?_
  rintro e w3 ⟨v, rfl, hrow3, hb3⟩
  have A := after_all HR.2.2 hk2 hown2 hg2 hrow3 hb3
  clear hk2 hown2 hg2 hrow3 hb3 hB2 HR hk hs HKS HSS
  obtain ⟨bm, hbm⟩ : ∃ bm, bm = w1.heap.size := ⟨_, rfl⟩
  rw [← hbm] at A
  clear hbm
  obtain ⟨B, hrow⟩ := A.row
  have HL := fun (o hb : Bool) (ho : oth ks ss n = o) (hh : hasS (dist ks ss n) p = hb) => look_here A hp ho hh
  have HB : Hid (Below w.heap.size w w3) := A.bel
  clear A
  have hdl := dist_le ks ss n
  generalize oth ks ss n = o at *
  generalize dist ks ss n = D at *
  have HLH := HL o
  clear HL
  have HL : Hid (∀ hb, hasS D p = hb → Calls Yba.prog 8 #[.pointer (some ⟨w.heap.size, 0, none⟩), .string p] w3 fun e w' => e = .returned (.int .i8 (look hb o)) ∧ Below w3.heap.size w3 w') := fun hb h => HLH hb rfl h
  clear HLH
  rcases hrow.2 with ⟨rfl, hm0⟩ | ⟨g, cp, cur, rfl, hg1, hg2, hg3, hg4, hg5, hg6⟩
  · have hno : hasS D p = false := by rw [List.eq_nil_of_length_eq_zero hm0]; rfl
    have HN := HL.out false hno
    have HNH : Hid (Calls Yba.prog 8 #[.pointer (some ⟨w.heap.size, 0, none⟩), .string p] w3 fun e w' => e = .returned (.int .i8 (look false o)) ∧ Below w3.heap.size w3 w') := HN
    clear HN HL hno
    go_wp2
    refine wp_loop_rounds 1 ?_
    rw [rounds_succ]
    cases o
    all_goals
      go_wp2_with (go_at_call 8; refine HNH.out.mono ?_; rintro e w4 ⟨rfl, hb4⟩)
      go_ret
      exact ⟨rfl, HB.out.trans (hb4.mono HB.out.size)⟩
  · clear hg1 hg2 hg3 hg4 hg5 hg6
    go_wp2
    go_loop [11, 12] (fun sn i => ∃ j : Nat, j ≤ D.length ∧ i = .int .i64 j ∧ sn = .bool false ∧ hasS (D.take j) p = false) (fun _ i => D.length - (intOf i).toNat)
    case atStart => exact ⟨0, Nat.zero_le _, rfl, rfl, rfl⟩
    case round =>
      obtain ⟨j, hj, rfl, rfl, hno⟩ := hrel
      have HNO : Hid (hasS (D.take j) p = false) := hno
      clear hno
      by_cases hjl : j < D.length
      · obtain ⟨t, htd⟩ : ∃ t, t = D.getD j ⟨#[]⟩ := ⟨_, rfl⟩
        have hct : w3.cell? ⟨g, j, none⟩ = some (.string t) := by rw [htd]; exact row_cell hrow hjl
        have HT : Hid (t = D.getD j ⟨#[]⟩) := htd
        clear htd
        cases htest : (t.toList == p.toList)
        · have HN := hasS_step hjl HT.out (by rw [← test_s]; exact htest) HNO.out
          go_wp2
          go_round
          case rel => exact ⟨j + 1, by omega, by go_num, rfl, HN⟩
          case measure => simp [intOf]; omega
        · have HN : Hid (Calls Yba.prog 8 #[.pointer (some ⟨w.heap.size, 0, none⟩), .string p] w3 fun e w' => e = .returned (.int .i8 (look true o)) ∧ Below w3.heap.size w3 w') := HL.out true (hasS_hit hjl HT.out (by rw [← test_s]; exact htest))
          clear HL HNO
          go_wp2_with (go_at_call 8; refine HN.out.mono ?_; rintro e w4 ⟨rfl, hb4⟩)
          go_ret
          exact ⟨rfl, HB.out.trans (hb4.mono HB.out.size)⟩
      · have HN : Hid (Calls Yba.prog 8 #[.pointer (some ⟨w.heap.size, 0, none⟩), .string p] w3 fun e w' => e = .returned (.int .i8 (look false o)) ∧ Below w3.heap.size w3 w') := HL.out false (hasS_all hjl HNO.out)
        clear HL HNO
        cases o
        all_goals
          go_wp2_with (go_at_call 8; refine HN.out.mono ?_; rintro e w4 ⟨rfl, hb4⟩)
          go_ret
          exact ⟨rfl, HB.out.trans (hb4.mono HB.out.size)⟩
end Go.Proofs.Ybulkbeke
