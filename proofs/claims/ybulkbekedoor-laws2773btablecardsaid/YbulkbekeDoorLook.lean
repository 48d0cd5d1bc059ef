/-
  WHAT THE LISTED MAP GIVES THE WALKS (seat b2773aD): from 'laid' to the look-ups in every later world.
-/
import Derived.Test.YbulkbekeDoorWalks
import Derived.ProofKit
import Derived.LaidMore
import Derived.OpenShut
import Derived.Stop.Joined
import Derived.Maps.OwnSet
namespace Go.Proofs.YbulkbekeDoor
open Go.ChangeShapes Go.WideShapes Go.ChangeAt Go.WideMaps Go.WideElems Go.RowKit Go.Maps

theorem own : ownKnob Ybad.prog.godebug = none := by kernel_rfl
theorem laidOut : laidOutB Ybad.prog = true := by kernel_rfl
/-- the listed variable, by the name that the given rows bear -/
def opsName : String := Rows.lawS2773BTableSpec.vars.headD "x"
theorem gOps : Ybad.prog.globalNamed opsName = some 0 := by kernel_rfl
theorem tOps : (Ybad.prog.globals[0]?).map (·.type) = some 42 := by kernel_rfl
theorem law22 : Keyed Ybad.prog 22 := int_keyed Ybad.underlying22
theorem zero36 (w : World) : (zeroValue 36).run Ybad.prog w = .ok (.int .i8 0) w := by kernel_rfl
def laid1 : List (String × DataW Unit) := [(opsName, Rows.laid_example_com_demesne_demesne_operators)]

theorem door_met (os : Os) (args : Array Value) : laidMetH Ybad.prog laid1 ((World.doorLaid Ybad.prog 44 os).forCall (fun _ _ => 0) ⟨#[], args, []⟩).memory :=
  laidMetH_of_parts3 (fuel := 8) (laidMet_of_run' 8 (by kernel_rfl) (by kernel_rfl)) (by kernel_rfl) (by kernel_rfl)

theorem ops_at (c : Int) (h0 : 0 ≤ c) (h1 : c < 20) : (Rows.laid_example_com_demesne_demesne_operators (H := Unit)).atKey (.int .i64 c) (.lit (.int .i8 0)) = .lit (.int .i8 (opOf c)) ∧
    Maps.has (Rows.laid_example_com_demesne_demesne_operators (H := Unit)) (.int .i64 c) = okOf c := by
  have h : c = 0 ∨ c = 1 ∨ c = 2 ∨ c = 3 ∨ c = 4 ∨ c = 5 ∨ c = 6 ∨ c = 7 ∨ c = 8 ∨ c = 9 ∨ c = 10 ∨ c = 11 ∨ c = 12 ∨ c = 13 ∨ c = 14 ∨ c = 15 ∨ c = 16 ∨ c = 17 ∨ c = 18 ∨ c = 19 := by omega
  rcases h with rfl | rfl | rfl | rfl | rfl | rfl | rfl | rfl | rfl | rfl | rfl | rfl | rfl | rfl | rfl | rfl | rfl | rfl | rfl | rfl <;> exact ⟨rfl, rfl⟩

set_option maxRecDepth 100000 in
theorem of_laid {W : World} (h : laidMetH Ybad.prog laid1 W) : ∃ bm, W.cell? ⟨0, 0, none⟩ = some (.map (some bm)) ∧ 0 < W.heap.size ∧ Look (.map (some bm)) W := by
  rw [MakeChecks.laidMetH_plain _ _ _ (by kernel_rfl)] at h
  obtain ⟨ps, ⟨g0, t0, cs0, f0, p0, q0, hg0, ht0, hv0, hd0, _, _⟩, _, _⟩ := h
  obtain rfl := Option.some.inj (gOps.symm.trans hg0)
  obtain rfl := Option.some.inj (tOps.symm.trans ht0)
  rcases open_map Ybad.underlying42 hd0 with ⟨_, hx⟩ | ⟨bm, es, clock, m, rfl, hcs, hb, _, F, hx⟩
  · simp [Rows.laid_example_com_demesne_demesne_operators] at hx
  simp only [Prod.mk.injEq] at hx
  have hcell : W.cell? ⟨0, 0, none⟩ = some (.map (some bm)) := by
    have := World.var?_cell hg0 hv0 0
    rw [Array.eq_one_of_toList hcs] at this
    simpa using this
  have hbm : bm < W.heap.size := lt_of_block hb
  have hown := World.ownsMap_of_fit (R := plainElem Ybad.prog 36) hb F (fun x _ z hz => elemAt_plainElem_int Ybad.underlying36 hz)
  rw [← hx.1] at hown
  refine ⟨bm, hcell, by omega, ?_⟩
  intro wr hB c h0 h1
  obtain ⟨es', clock', hb', F', hle, hDD⟩ := hown
  have hown' : wr.ownsMap Ybad.prog 22 (plainElem Ybad.prog 36) bm es.size (Rows.laid_example_com_demesne_demesne_operators (H := Unit)) := ⟨es', clock', by rw [hB.block bm hbm]; exact hb', F', hle, hDD⟩
  obtain ⟨v, ps, hrun, hv⟩ := hown'.look_ok law22 Ybad.underlying42 (zero36 _) (zd := .lit (.int .i8 0)) (zp := []) (by kernel_rfl) (keyOf_int_mk Ybad.underlying22 (WalkArith.wf_i64 (n := c) ⟨by omega, by omega⟩))
  obtain ⟨e1, e2⟩ := ops_at c h0 h1
  rw [e1] at hv
  rw [e2] at hrun
  obtain ⟨r, rfl, hr, _⟩ := plainElem_int_inv Ybad.underlying36 hv
  simp at hr
  rw [hrun, hr.1]

end Go.Proofs.YbulkbekeDoor
