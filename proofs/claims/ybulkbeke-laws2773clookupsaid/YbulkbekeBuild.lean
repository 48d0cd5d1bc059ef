/-
  THE WALK of zzs2773cbuild (function 6).
-/
import Derived.Test.YbulkbekeParts
import Derived.Test.YbulkbekeWalks
import Derived.Maps.AppendAt
namespace Go.Proofs.Ybulkbeke
open Go.RowKit Go.Maps

theorem Yba.info20 : (Yba.prog.info? 20).map (fun i => (i.zero, i.size, i.bytes)) = some (some .nilIface, 1, 16) := by kernel_rfl

/-- the slice's value after k elements -/
abbrev rowV (g k n : Nat) : Value := .slice (some ⟨g, 0, none⟩) k n

theorem els_step {ks : List Int} {ss : List ByteArray} {k : Nat} {v : Value} (h : elemV ks ss k = v) : els ks ss (k + 1) = els ks ss k ++ [v] := by rw [els, h]
theorem elem0 {ks : List Int} {ss : List ByteArray} {k : Nat} (h : ks.getD k 0 % 3 = 0) : elemV ks ss k = .iface 9 (.string (pickS ss k)) := by unfold elemV; rw [if_pos h]
theorem elem1 {ks : List Int} {ss : List ByteArray} {k : Nat} (h : ks.getD k 0 % 3 = 1) : elemV ks ss k = .nilIface := by unfold elemV; rw [if_neg (by omega), if_pos h]
theorem elem2 {ks : List Int} {ss : List ByteArray} {k : Nat} (h : ks.getD k 0 % 3 = 2) : elemV ks ss k = .iface 3 (.int .i64 k) := by unfold elemV; rw [if_neg (by omega), if_neg (by omega)]
theorem one_oneCell {v : Value} (h : v.oneCell' = true) : ∀ u ∈ [v], u.oneCell' = true := by intro u hu; simp at hu; subst hu; exact h


/-- a round's end: one element more -/
theorem build_step {B k n : Nat} {ks : List Int} {ss : List ByteArray} {w wr w1 : World} {o : Obj} {v : Value} (he : elemV ks ss k = v) (hnx : Below B w wr) (hB : B ≤ wr.heap.size)
    (hown1 : w1.ownsRow B 20 1 (rowV B (k + 1) n) (k + 1) (els ks ss k ++ [v])) (hg : (wr.alloc o).grownBy w1 (some B)) :
    w1.ownsRow B 20 1 (rowV B (k + 1) n) (k + 1) (els ks ss (k + 1)) ∧ Below B w w1 := by
  refine ⟨by rw [els_step he]; exact hown1, (hnx.alloc hB _).grown hg (by simp; omega) (fun k hk => by cases hk; exact Nat.le_refl _)⟩

set_option maxHeartbeats 1000000 in
set_option maxRecDepth 100000 in
/-- some kinds; no strings to pick from -/
theorem build_pos0 (b off n cap : Nat) (ks : List Int) (sa : Option Addr) (sc : Nat) (ss : List ByteArray) (w : World) (hn : n ≤ 1024) (hb : b < w.heap.size)
    (hc : ∀ j, j < n → w.cell? ⟨b, off + j, none⟩ = some (.int .u8 (ks.getD j 0))) (hks : ∀ j, 0 ≤ ks.getD j 0 ∧ ks.getD j 0 ≤ 255) (hss : ss.length = 0) :
    Calls Yba.prog 6 #[.slice (some ⟨b, off, none⟩) n cap, .slice sa 0 sc] w fun e w' => e = .returned (rowV w.heap.size n n) ∧ w'.ownsRow w.heap.size 20 1 (rowV w.heap.size n n) n (els ks ss n) ∧ Below w.heap.size w w' := by
  obtain ⟨i0, hi, hz0, hz1, hz2⟩ := info_parts Yba.info20
  go_enter Yba.func6, Yba.ntmps6
  go_wp2_with (at_make; refine wpList_make_own _ rfl _ _ 31 rfl w.heap.size 20 i0 .nilIface 1 Yba.underlying31 hi hz0 hz1 _ _ _ n rfl rfl (by omega) ?b2 ?b3 (Nat.le_refl _) ?_)
  case b2 => rw [hz2]; omega
  case b3 => unfold maxLen; omega
  intro w0 hown0 hgrow0
  go_wp2
  go_loopw [5, 6] (fun v i wr => ∃ k : Nat, k ≤ n ∧ i = .int .i64 k ∧ v = rowV w.heap.size k n ∧ wr.ownsRow w.heap.size 20 1 (rowV w.heap.size k n) k (els ks ss k) ∧ Below w.heap.size w wr)
    (fun _ i _ => n - (intOf i).toNat)
  case atStart => exact ⟨0, Nat.zero_le _, rfl, rfl, hown0, (Below.refl _ _).grown hgrow0 (Nat.le_refl _) (fun k h => by cases h)⟩
  case round =>
    obtain ⟨k, hk, rfl, rfl, hown, hnx⟩ := hrel
    by_cases hlt : k < n
    · obtain ⟨c, hcd⟩ : ∃ c, c = ks.getD k 0 := ⟨_, rfl⟩
      have hcx : wr.cell? ⟨b, off + k, none⟩ = some (.int .u8 c) := by rw [hcd]; exact (hnx.cell (by exact hb)).trans (hc k hlt)
      obtain ⟨c0, c1⟩ : 0 ≤ c ∧ c ≤ 255 := by rw [hcd]; exact hks k
      have HC : Hid (c = ks.getD k 0) := hcd
      clear hcd hc hks
      have hsz := hnx.size
      rcases (show c % 3 = 0 ∨ c % 3 = 1 ∨ c % 3 = 2 by omega) with h | h | h
      · have H0 : Hid (c % 3 = 0) := h
        have t0 : (c % 3 == 0) = true := by simpa using h
        clear h
        have HE : Hid (elemV ks ss k = .iface 9 (.string ⟨#[120]⟩)) := by
          have e : pickS ss k = ⟨#[120]⟩ := by unfold pickS; rw [if_pos hss]
          rw [← e]
          exact elem0 (by rw [← HC.out]; exact H0.out)
        go_wp2_with (at_builtin; refine wpList_append_fits _ rfl _ _ 31 rfl w.heap.size 20 i0 1 Yba.underlying31 hi hz1 w.heap.size k n _ rfl (hown.alloc _) ⟨wr.heap.size, 0, none⟩ 1 1 [.iface 9 (.string ⟨#[120]⟩)] rfl rfl (cell_one_new _ _ _) (one_oneCell rfl) (by omega) ?_)
        intro w1 hown1 hgrow1
        have R := build_step HE.out hnx hsz hown1 hgrow1
        clear hown1 hgrow1 hown hcx
        go_wp2
        go_roundw
        case rel => exact ⟨k + 1, by omega, by go_num, rfl, R.1, R.2⟩
        case measure => simp [intOf]; omega
      · have HE : Hid (elemV ks ss k = .nilIface) := elem1 (by rw [← HC.out]; exact h)
        have t0 : (c % 3 == 0) = false := by rw [h]; rfl
        have t1 : (c % 3 == 1) = true := by rw [h]; rfl
        clear h
        go_wp2_with (at_builtin; refine wpList_append_fits _ rfl _ _ 31 rfl w.heap.size 20 i0 1 Yba.underlying31 hi hz1 w.heap.size k n _ rfl (hown.alloc _) ⟨wr.heap.size, 0, none⟩ 1 1 [.nilIface] rfl rfl (cell_one_new _ _ _) (one_oneCell rfl) (by omega) ?_)
        intro w1 hown1 hgrow1
        have R := build_step HE.out hnx hsz hown1 hgrow1
        clear hown1 hgrow1 hown hcx
        go_wp2
        go_roundw
        case rel => exact ⟨k + 1, by omega, by go_num, rfl, R.1, R.2⟩
        case measure => simp [intOf]; omega
      · have HE : Hid (elemV ks ss k = .iface 3 (.int .i64 k)) := elem2 (by rw [← HC.out]; exact h)
        have t0 : (c % 3 == 0) = false := by rw [h]; rfl
        have t1 : (c % 3 == 1) = false := by rw [h]; rfl
        clear h
        go_wp2_with (at_builtin; refine wpList_append_fits _ rfl _ _ 31 rfl w.heap.size 20 i0 1 Yba.underlying31 hi hz1 w.heap.size k n _ rfl (hown.alloc _) ⟨wr.heap.size, 0, none⟩ 1 1 [.iface 3 (.int .i64 k)] rfl rfl (cell_one_new _ _ _) (one_oneCell rfl) (by omega) ?_)
        intro w1 hown1 hgrow1
        have R := build_step HE.out hnx hsz hown1 hgrow1
        clear hown1 hgrow1 hown hcx
        go_wp2
        go_roundw
        case rel => exact ⟨k + 1, by omega, by go_num, rfl, R.1, R.2⟩
        case measure => simp [intOf]; omega
    · obtain rfl : k = n := by omega
      go_wp2
      go_ret
      exact ⟨rfl, hown, hnx⟩

set_option maxHeartbeats 1000000 in
set_option maxRecDepth 100000 in
/-- some kinds; some strings -/
theorem build_pos1 (b off n cap : Nat) (ks : List Int) (sb so sl sc : Nat) (ss : List ByteArray) (w : World) (hn : n ≤ 1024) (hb : b < w.heap.size)
    (hc : ∀ j, j < n → w.cell? ⟨b, off + j, none⟩ = some (.int .u8 (ks.getD j 0))) (hks : ∀ j, 0 ≤ ks.getD j 0 ∧ ks.getD j 0 ≤ 255) (hss : ss.length = sl) (hsl : 0 < sl) (hsm : sl ≤ 9223372036854775807) (hsb : sb < w.heap.size) (hs : ∀ j, j < sl → w.cell? ⟨sb, so + j, none⟩ = some (.string (ss.getD j ⟨#[]⟩))) :
    Calls Yba.prog 6 #[.slice (some ⟨b, off, none⟩) n cap, .slice (some ⟨sb, so, none⟩) sl sc] w fun e w' => e = .returned (rowV w.heap.size n n) ∧ w'.ownsRow w.heap.size 20 1 (rowV w.heap.size n n) n (els ks ss n) ∧ Below w.heap.size w w' := by
  obtain ⟨i0, hi, hz0, hz1, hz2⟩ := info_parts Yba.info20
  go_enter Yba.func6, Yba.ntmps6
  go_wp2_with (at_make; refine wpList_make_own _ rfl _ _ 31 rfl w.heap.size 20 i0 .nilIface 1 Yba.underlying31 hi hz0 hz1 _ _ _ n rfl rfl (by omega) ?b2 ?b3 (Nat.le_refl _) ?_)
  case b2 => rw [hz2]; omega
  case b3 => unfold maxLen; omega
  intro w0 hown0 hgrow0
  go_wp2
  go_loopw [5, 6] (fun v i wr => ∃ k : Nat, k ≤ n ∧ i = .int .i64 k ∧ v = rowV w.heap.size k n ∧ wr.ownsRow w.heap.size 20 1 (rowV w.heap.size k n) k (els ks ss k) ∧ Below w.heap.size w wr)
    (fun _ i _ => n - (intOf i).toNat)
  case atStart => exact ⟨0, Nat.zero_le _, rfl, rfl, hown0, (Below.refl _ _).grown hgrow0 (Nat.le_refl _) (fun k h => by cases h)⟩
  case round =>
    obtain ⟨k, hk, rfl, rfl, hown, hnx⟩ := hrel
    by_cases hlt : k < n
    · obtain ⟨c, hcd⟩ : ∃ c, c = ks.getD k 0 := ⟨_, rfl⟩
      have hcx : wr.cell? ⟨b, off + k, none⟩ = some (.int .u8 c) := by rw [hcd]; exact (hnx.cell (by exact hb)).trans (hc k hlt)
      obtain ⟨c0, c1⟩ : 0 ≤ c ∧ c ≤ 255 := by rw [hcd]; exact hks k
      have HC : Hid (c = ks.getD k 0) := hcd
      clear hcd hc hks
      have hsz := hnx.size
      rcases (show c % 3 = 0 ∨ c % 3 = 1 ∨ c % 3 = 2 by omega) with h | h | h
      · have H0 : Hid (c % 3 = 0) := h
        have t0 : (c % 3 == 0) = true := by simpa using h
        clear h
        obtain ⟨s, hsd⟩ : ∃ s, s = pickS ss k := ⟨_, rfl⟩
        have HE : Hid (elemV ks ss k = .iface 9 (.string s)) := by rw [hsd]; exact elem0 (by rw [← HC.out]; exact H0.out)
        have hcs : wr.cell? ⟨sb, so + k % sl, none⟩ = some (.string s) := by
          rw [hsd]
          unfold pickS
          rw [if_neg (by omega), hss]
          exact (hnx.cell (by exact hsb)).trans (hs _ (Nat.mod_lt _ hsl))
        have hml : k % sl < sl := Nat.mod_lt _ hsl
        clear hsd
        go_wp2_with (at_builtin; refine wpList_append_fits _ rfl _ _ 31 rfl w.heap.size 20 i0 1 Yba.underlying31 hi hz1 w.heap.size k n _ rfl (hown.alloc _) ⟨wr.heap.size, 0, none⟩ 1 1 [.iface 9 (.string s)] rfl rfl (cell_one_new _ _ _) (one_oneCell rfl) (by omega) ?_)
        intro w1 hown1 hgrow1
        have R := build_step HE.out hnx hsz hown1 hgrow1
        clear hown1 hgrow1 hown hcx
        go_wp2
        go_roundw
        case rel => exact ⟨k + 1, by omega, by go_num, rfl, R.1, R.2⟩
        case measure => simp [intOf]; omega
      · have HE : Hid (elemV ks ss k = .nilIface) := elem1 (by rw [← HC.out]; exact h)
        have t0 : (c % 3 == 0) = false := by rw [h]; rfl
        have t1 : (c % 3 == 1) = true := by rw [h]; rfl
        clear h
        go_wp2_with (at_builtin; refine wpList_append_fits _ rfl _ _ 31 rfl w.heap.size 20 i0 1 Yba.underlying31 hi hz1 w.heap.size k n _ rfl (hown.alloc _) ⟨wr.heap.size, 0, none⟩ 1 1 [.nilIface] rfl rfl (cell_one_new _ _ _) (one_oneCell rfl) (by omega) ?_)
        intro w1 hown1 hgrow1
        have R := build_step HE.out hnx hsz hown1 hgrow1
        clear hown1 hgrow1 hown hcx
        go_wp2
        go_roundw
        case rel => exact ⟨k + 1, by omega, by go_num, rfl, R.1, R.2⟩
        case measure => simp [intOf]; omega
      · have HE : Hid (elemV ks ss k = .iface 3 (.int .i64 k)) := elem2 (by rw [← HC.out]; exact h)
        have t0 : (c % 3 == 0) = false := by rw [h]; rfl
        have t1 : (c % 3 == 1) = false := by rw [h]; rfl
        clear h
        go_wp2_with (at_builtin; refine wpList_append_fits _ rfl _ _ 31 rfl w.heap.size 20 i0 1 Yba.underlying31 hi hz1 w.heap.size k n _ rfl (hown.alloc _) ⟨wr.heap.size, 0, none⟩ 1 1 [.iface 3 (.int .i64 k)] rfl rfl (cell_one_new _ _ _) (one_oneCell rfl) (by omega) ?_)
        intro w1 hown1 hgrow1
        have R := build_step HE.out hnx hsz hown1 hgrow1
        clear hown1 hgrow1 hown hcx
        go_wp2
        go_roundw
        case rel => exact ⟨k + 1, by omega, by go_num, rfl, R.1, R.2⟩
        case measure => simp [intOf]; omega
    · obtain rfl : k = n := by omega
      go_wp2
      go_ret
      exact ⟨rfl, hown, hnx⟩

set_option maxHeartbeats 400000 in
set_option maxRecDepth 100000 in
/-- no kinds -/
theorem build_none (a : Option Addr) (cap : Nat) (v1 : Value) (w : World) :
    Calls Yba.prog 6 #[.slice a 0 cap, v1] w fun e w' => e = .returned (rowV w.heap.size 0 0) ∧ w'.ownsRow w.heap.size 20 1 (rowV w.heap.size 0 0) 0 [] ∧ Below w.heap.size w w' := by
  obtain ⟨i0, hi, hz0, hz1, hz2⟩ := info_parts Yba.info20
  go_enter Yba.func6, Yba.ntmps6
  go_wp2_with (at_make; refine wpList_make_own _ rfl _ _ 31 rfl w.heap.size 20 i0 .nilIface 1 Yba.underlying31 hi hz0 hz1 _ _ _ 0 rfl rfl (by omega) ?b2 ?b3 (Nat.le_refl _) ?_)
  case b2 => rw [hz2]; omega
  case b3 => unfold maxLen; omega
  intro w0 hown0 hgrow0
  go_wp2
  refine wp_loop_rounds 1 ?_
  rw [rounds_succ]
  go_wp2
  go_ret
  exact ⟨rfl, hown0, (Below.refl _ _).grown hgrow0 (Nat.le_refl _) (fun k h => by cases h)⟩

/-- a slice of bytes that came in: empty, or its cells -/
def KindsAt (w : World) (a : Option Addr) (n : Nat) (ks : List Int) : Prop :=
  n ≤ 1024 ∧ (∀ j, 0 ≤ ks.getD j 0 ∧ ks.getD j 0 ≤ 255) ∧ (n = 0 ∨ ∃ b off, a = some ⟨b, off, none⟩ ∧ b < w.heap.size ∧ ∀ j, j < n → w.cell? ⟨b, off + j, none⟩ = some (.int .u8 (ks.getD j 0)))
/-- a slice of strings that came in: empty, or its cells -/
def StrsAt (w : World) (a : Option Addr) (n : Nat) (ss : List ByteArray) : Prop :=
  ss.length = n ∧ (∀ s ∈ ss, s.size ≤ maxLen) ∧ (n = 0 ∨ ∃ b off, a = some ⟨b, off, none⟩ ∧ 0 < n ∧ n ≤ 9223372036854775807 ∧ b < w.heap.size ∧ ∀ j, j < n → w.cell? ⟨b, off + j, none⟩ = some (.string (ss.getD j ⟨#[]⟩)))

theorem KindsAt.below {w w' : World} {a : Option Addr} {n : Nat} {ks : List Int} (h : KindsAt w a n ks) (hB : Below w.heap.size w w') : KindsAt w' a n ks := by
  obtain ⟨h1, h2, h3⟩ := h
  refine ⟨h1, h2, ?_⟩
  rcases h3 with h3 | ⟨b, off, e, hb, hc⟩
  · exact .inl h3
  · exact .inr ⟨b, off, e, Nat.lt_of_lt_of_le hb hB.size, fun j hj => (hB.cell (by exact hb)).trans (hc j hj)⟩
theorem StrsAt.below {w w' : World} {a : Option Addr} {n : Nat} {ss : List ByteArray} (h : StrsAt w a n ss) (hB : Below w.heap.size w w') : StrsAt w' a n ss := by
  obtain ⟨h1, h2, h3⟩ := h
  refine ⟨h1, h2, ?_⟩
  rcases h3 with h3 | ⟨b, off, e, h0, hm, hb, hc⟩
  · exact .inl h3
  · exact .inr ⟨b, off, e, h0, hm, Nat.lt_of_lt_of_le hb hB.size, fun j hj => (hB.cell (by exact hb)).trans (hc j hj)⟩

theorem build_any {a sa : Option Addr} {n cap sl sc : Nat} {ks : List Int} {ss : List ByteArray} {w : World} (hk : KindsAt w a n ks) (hs : StrsAt w sa sl ss) :
    Calls Yba.prog 6 #[.slice a n cap, .slice sa sl sc] w fun e w' => e = .returned (rowV w.heap.size n n) ∧ w'.ownsRow w.heap.size 20 1 (rowV w.heap.size n n) n (els ks ss n) ∧ Below w.heap.size w w' := by
  obtain ⟨hn, hks, hk⟩ := hk
  obtain ⟨hss, _, hs⟩ := hs
  rcases hk with rfl | ⟨b, off, rfl, hb, hc⟩
  · exact build_none a cap _ w
  · rcases hs with rfl | ⟨sb, so, rfl, hsl, hsm, hsb, hs⟩
    · exact build_pos0 b off n cap ks sa sc ss w hn hb hc hks hss
    · exact build_pos1 b off n cap ks sb so sl sc ss w hn hb hc hks hss hsl hsm hsb hs
end Go.Proofs.Ybulkbeke
