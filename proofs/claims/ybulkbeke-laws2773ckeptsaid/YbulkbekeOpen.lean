/-
  THE ARGUMENTS OPENED (seat b2773a): a slice of bytes, a slice of strings.
-/
import Derived.Test.YbulkbekeBuild
import Derived.ProofKit
import Derived.OpenShut
import Derived.SliceStrings
namespace Go.Proofs.Ybulkbeke
open Go.ChangeShapes Go.WideShapes Go.ChangeAt Go.RowKit

theorem own : ownKnob Yba.prog.godebug = none := by kernel_rfl
theorem laidOut : laidOutB Yba.prog = true := by kernel_rfl

theorem spot_none {w : World} {a : Addr} {v : Value} (h : w.cell? (a.add 0) = some v) : a = ⟨a.block, a.off, none⟩ := by
  have hs := World.cell?_spot h
  obtain ⟨b, o, s⟩ := a
  have : s = none := by simpa [Addr.add] using hs
  subst this
  rfl

theorem add_at (b o j : Nat) : (⟨b, o, none⟩ : Addr).add j = ⟨b, o + j, none⟩ := by
  unfold Addr.add
  split
  · rename_i h; have h0 : j = 0 := by simpa using h
    subst h0; rfl
  · rfl

theorem open_kinds {H : Type} {enc : TypeId × Value → H} {W : World} {a : Option Addr} {len cap : Nat} {d : DataW H} {p : List MemPlace} (hn : len ≤ 1024)
    (h : DataW.Trod enc Yba.prog W 0 (fun _ => true) true 22 (.slice a len cap) d p) : ∃ ks, KindsAt W a len ks := by
  obtain ⟨fuel, hf⟩ := h
  rcases open_ints Yba.underlying22 Yba.underlying5 (by kernel_rfl) hf with ⟨hcs, _⟩ | ⟨x, l, c, zs, hcs, _, hl, hm, hz, _, hcell, hwz⟩
  · simp [Value.cells] at hcs
    obtain ⟨rfl, rfl, rfl⟩ := hcs
    exact ⟨[], hn, fun j => by simp, .inl rfl⟩
  · simp [Value.cells] at hcs
    obtain ⟨rfl, rfl, rfl⟩ := hcs
    refine ⟨zs, hn, fun j => ?_, ?_⟩
    · have := range_u8 hwz j
      rw [List.getD_eq_getElem?_getD]
      exact this
    · by_cases h0 : len = 0
      · exact .inl h0
      · have hz' : zs.length = cap := by simpa using hz
        have e := spot_none (hcell 0 (by omega))
        have hc0 := hcell 0 (by omega)
        refine .inr ⟨x.block, x.off, congrArg some e, World.block_lt_of_cell? W _ hc0, fun j hj => ?_⟩
        have := hcell j (by omega)
        rw [e, add_at] at this
        exact this

theorem open_strs {H : Type} {enc : TypeId × Value → H} {W : World} {a : Option Addr} {len cap : Nat} {d : DataW H} {p : List MemPlace}
    (h : DataW.Trod enc Yba.prog W 0 (fun _ => true) true 23 (.slice a len cap) d p) : ∃ ss, StrsAt W a len ss := by
  obtain ⟨fuel, hf⟩ := h
  rcases open_strings Yba.underlying23 Yba.underlying9 (by kernel_rfl) hf with ⟨hcs, _⟩ | ⟨x, l, c, ss, hcs, _, hl, hm, hz, _, hcell, hws⟩
  · simp [Value.cells] at hcs
    obtain ⟨rfl, rfl, rfl⟩ := hcs
    exact ⟨[], rfl, fun s hs => by simp at hs, .inl rfl⟩
  · simp [Value.cells] at hcs
    obtain ⟨rfl, rfl, rfl⟩ := hcs
    have hz' : ss.length = cap := by simpa using hz
    refine ⟨ss.take len, by simp; omega, fun s hs => hws s (List.mem_of_mem_take hs), ?_⟩
    by_cases h0 : len = 0
    · exact .inl h0
    · have hc0 := hcell 0 (by omega)
      have e := spot_none hc0
      refine .inr ⟨x.block, x.off, congrArg some e, by omega, by unfold maxLen at hm; omega, World.block_lt_of_cell? W _ hc0, fun j hj => ?_⟩
      have := hcell j (by omega)
      rw [e, add_at] at this
      rw [List.getD_eq_getElem?_getD, List.getElem?_take_of_lt hj, ← List.getD_eq_getElem?_getD]
      exact this
end Go.Proofs.Ybulkbeke
