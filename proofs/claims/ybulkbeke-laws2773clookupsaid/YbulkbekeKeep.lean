/-
  THE WALK of keepStrings (function 5).
-/
import Derived.Test.YbulkbekeModel
import Derived.Maps.Range
namespace Go.Proofs.Ybulkbeke
open Go.RowKit Go.Maps Go.WideMaps

theorem law9 : Keyed Yba.prog 9 := string_keyed Yba.underlying9
theorem zero35 (w : World) : (zeroValue 35).run Yba.prog w = .ok (.agg #[]) w := by kernel_rfl
theorem run_makeMap_hint (n : Nat) (w : World) : (Instr.makeMap 27 (some (.int .i64 n))).run Yba.prog w = .ok (.map (some w.heap.size)) (w.alloc (.map #[] 0)) := by
  simp [Instr.makeMap, go_sem]

/-- the keptArray's block -/
abbrev kept (inn : Int) (m : Value) (o : Bool) : Obj := .cells #[.int .i8 inn, m, .bool o] 29 (0, 0)
theorem kept_cells {w : World} {b : Nat} {inn : Int} {m : Value} {o : Bool} (h : w.heap[b]? = some (kept inn m o)) :
    w.cell? ⟨b, 0, none⟩ = some (.int .i8 inn) ∧ w.cell? ⟨b, 1, none⟩ = some m ∧ w.cell? ⟨b, 2, none⟩ = some (.bool o) ∧ w.frozen? ⟨b, 1, none⟩ = false ∧ w.frozen? ⟨b, 2, none⟩ = false := by
  refine ⟨?_, ?_, ?_, ?_, ?_⟩ <;> simp [World.cell?, World.frozen?, h]
theorem kept_set {w : World} {b : Nat} {cs : Array Value} {t : TypeId} (h : w.heap[b]? = some (.cells cs t (0, 0))) (j : Nat) (u : Value) : (w.setCell ⟨b, j, none⟩ u).heap[b]? = some (.cells (cs.setIfInBounds j u) t (0, 0)) := by
  have hlt := lt_of_block h
  have h' : w.heap[b] = .cells cs t (0, 0) := by simpa [Array.getElem?_eq_getElem hlt] using h
  show (w.heap.modify b _)[b]? = _
  rw [Array.getElem?_eq_getElem (by simpa using hlt), Array.getElem_modify_self, h']
  rfl
theorem grownBy_set (w : World) (b i : Nat) (v : Value) : w.grownBy (w.setCell ⟨b, i, none⟩ v) (some b) :=
  ⟨rfl, rfl, rfl, by simp, fun k _ hne => Below.heap_setCell w _ _ k (fun e => hne (by rw [e]))⟩

theorem pick_size {ss : List ByteArray} (h : ∀ s ∈ ss, s.size ≤ maxLen) (k : Nat) : (pickS ss k).size ≤ maxLen := by
  unfold pickS
  split
  · decide
  · rw [List.getD_eq_getElem?_getD]
    cases e : ss[k % ss.length]? with
    | none => decide
    | some s => exact h s (List.mem_of_getElem? e)

theorem keep_str {ks : List Int} {ss : List ByteArray} {k bk : Nat} {inn : Int} {m : Value} {s : ByteArray} {w wr w1 : World} (hs : strOf ks ss k = some s) (hlt : bk < w.heap.size)
    (hkr : wr.heap[bk]? = some (kept inn m (oth ks ss k))) (hgr : w.grownBy wr (some bk)) (hown1 : w1.ownsMap Yba.prog 9 unitElem w.heap.size (k + 1) ((setK ks ss k).put (.string s.data.toList) (.agg []))) (hg : wr.grownBy w1 (some w.heap.size)) :
    w1.heap[bk]? = some (kept inn m (oth ks ss (k + 1))) ∧ w1.ownsMap Yba.prog 9 unitElem w.heap.size (k + 1) (setK ks ss (k + 1)) ∧ w.grownBy w1 (some bk) := by
  refine ⟨?_, by rw [setK_some hs]; exact hown1, hgr.andThen hg (fun j hj => by cases hj; exact .inl (Nat.le_refl _))⟩
  rw [hg.block bk (lt_of_block hkr) (fun e => by simp at e; omega), oth_some hs]
  exact hkr
theorem keep_int {ks : List Int} {ss : List ByteArray} {k bk : Nat} {inn : Int} {m : Value} {w wr : World} (hs : strOf ks ss k = none) (hlt : bk < w.heap.size)
    (hkr : wr.heap[bk]? = some (kept inn m (oth ks ss k))) (hgr : w.grownBy wr (some bk)) (hown : wr.ownsMap Yba.prog 9 unitElem w.heap.size k (setK ks ss k)) :
    (wr.setCell ⟨bk, 2, none⟩ (.bool true)).heap[bk]? = some (kept inn m (oth ks ss (k + 1))) ∧ (wr.setCell ⟨bk, 2, none⟩ (.bool true)).ownsMap Yba.prog 9 unitElem w.heap.size (k + 1) (setK ks ss (k + 1)) ∧
      w.grownBy (wr.setCell ⟨bk, 2, none⟩ (.bool true)) (some bk) := by
  refine ⟨?_, ?_, hgr.trans (grownBy_set wr bk 2 _)⟩
  · rw [kept_set hkr, oth_none hs]; rfl
  · rw [setK_none hs]
    exact (hown.setCell (by simp; omega) _).mono (Nat.le_succ _)

set_option maxHeartbeats 1000000 in
set_option maxRecDepth 100000 in
theorem keep_any (bk g n cap : Nat) (inn : Int) (ks : List Int) (ss : List ByteArray) (w : World) (hn : n ≤ 1024) (hks : ∀ j, 0 ≤ ks.getD j 0 ∧ ks.getD j 0 ≤ 255) (hss : ∀ s ∈ ss, s.size ≤ maxLen)
    (hkb : w.heap[bk]? = some (kept inn (.map none) false)) (hne : g ≠ bk) (hcell : ∀ j, j < n → w.cell? ⟨g, j, none⟩ = some (elemV ks ss j)) :
    Calls Yba.prog 5 #[.pointer (some ⟨bk, 0, none⟩), .slice (some ⟨g, 0, none⟩) n cap] w fun e w' => e = .returned (.tuple #[]) ∧ w'.heap[bk]? = some (kept inn (.map (some w.heap.size)) (oth ks ss n)) ∧
      w'.ownsMap Yba.prog 9 unitElem w.heap.size n (setK ks ss n) ∧ w.grownBy w' (some bk) := by
  have hmm := run_makeMap_hint n
  have hlt := lt_of_block hkb
  obtain ⟨k0, k1, k2, kf1, kf2⟩ := kept_cells hkb
  go_enter Yba.func5, Yba.ntmps5
  go_wp2
  go_loopw [16] (fun i wr => ∃ k : Nat, k ≤ n ∧ i = .int .i64 k ∧ wr.heap[bk]? = some (kept inn (.map (some w.heap.size)) (oth ks ss k)) ∧
      wr.ownsMap Yba.prog 9 unitElem w.heap.size k (setK ks ss k) ∧ w.grownBy wr (some bk))
    (fun i _ => n - (intOf i).toNat)
  case atStart =>
    refine ⟨0, Nat.zero_le _, rfl, ?_, ?_, ?_⟩
    · rw [Below.heap_alloc _ _ _ (by simpa using hlt), kept_set hkb]; rfl
    · have h := World.ownsMap_made (H := Unit) (w.setCell ⟨bk, 1, none⟩ (.map (some w.heap.size))) Yba.prog 9 unitElem
      rw [show (w.setCell ⟨bk, 1, none⟩ (.map (some w.heap.size))).heap.size = w.heap.size by simp] at h
      exact h
    · exact (grownBy_set w bk 1 _).andThen (World.grownBy_alloc _ _ none) (fun j hj => by cases hj)
  case round =>
    obtain ⟨k, hk, rfl, hkr, hown, hgr⟩ := hrel
    clear k0 k1 k2 kf1 kf2 hmm
    obtain ⟨q0, q1, q2, qf1, qf2⟩ := kept_cells hkr
    by_cases hkl : k < n
    · obtain ⟨c, hcd⟩ : ∃ c, c = ks.getD k 0 := ⟨_, rfl⟩
      obtain ⟨c0, c1⟩ : 0 ≤ c ∧ c ≤ 255 := by rw [hcd]; exact hks k
      have hce := hgr.cell (hcell k hkl) (fun e => hne (by simpa using e))
      rcases (show c % 3 = 0 ∨ c % 3 = 1 ∨ c % 3 = 2 by omega) with h | h | h
      · rw [hcd] at h
        rw [elem0 h] at hce
        have HS : Hid (strOf ks ss k = some (pickS ss k)) := str0 h
        have hkey : keyOf Yba.prog 9 (.string (pickS ss k)) = some (.string (pickS ss k).data.toList) := keyOf_string_mk Yba.underlying9 (pick_size hss k)
        clear h hcd c0 c1
        generalize pickS ss k = s at *
        clear hcell hks hss
        go_wp2_with (first
          | (go_at_call 9; refine (stringOf_str s _).mono ?_; rintro e w' ⟨rfl, rfl⟩)
          | (at_mapUpdate; refine wpList_mapUpdate_own _ rfl _ _ _ 27 rfl 9 35 law9 Yba.underlying27 (unitElem (H := Unit)) w.heap.size k _ rfl hown (by unfold maxLen; omega) _ _ _ rfl rfl hkey _ [] unitElem_mk ?_; intro w1 hown1 hgrow1))
        have R := keep_str HS.out hlt hkr hgr hown1 hgrow1
        go_roundw
        case rel => exact ⟨k + 1, by omega, by go_num, R.1, R.2.1, R.2.2⟩
        case measure => simp [intOf]; omega
      · rw [hcd] at h
        rw [elem1 h] at hce
        have HS : Hid (strOf ks ss k = some ⟨#[]⟩) := str1 h
        have hkey : keyOf Yba.prog 9 (.string ⟨#[]⟩) = some (.string (⟨#[]⟩ : ByteArray).data.toList) := keyOf_string_mk Yba.underlying9 (by decide)
        clear h hcd c0 c1
        clear hcell hks hss
        go_wp2_with (first
          | (go_at_call 9; refine (stringOf_nil _).mono ?_; rintro e w' ⟨rfl, rfl⟩)
          | (at_mapUpdate; refine wpList_mapUpdate_own _ rfl _ _ _ 27 rfl 9 35 law9 Yba.underlying27 (unitElem (H := Unit)) w.heap.size k _ rfl hown (by unfold maxLen; omega) _ _ _ rfl rfl hkey _ [] unitElem_mk ?_; intro w1 hown1 hgrow1))
        have R := keep_str HS.out hlt hkr hgr hown1 hgrow1
        go_roundw
        case rel => exact ⟨k + 1, by omega, by go_num, R.1, R.2.1, R.2.2⟩
        case measure => simp [intOf]; omega
      · rw [hcd] at h
        rw [elem2 h] at hce
        have HS : Hid (strOf ks ss k = none) := str2 h
        have R := keep_int HS.out hlt hkr hgr hown
        clear h hcd c0 c1 hcell hks hss hkr
        go_wp2_with (go_at_call 9; refine (stringOf_int _ _).mono ?_; rintro e w' ⟨rfl, rfl⟩)
        go_roundw
        case rel => exact ⟨k + 1, by omega, by go_num, R.1, R.2.1, R.2.2⟩
        case measure => simp [intOf]; omega
    · obtain rfl : k = n := by omega
      go_wp2
      go_end0
      exact ⟨rfl, hkr, hown, hgr⟩

end Go.Proofs.Ybulkbeke
