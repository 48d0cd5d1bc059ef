/-
  THE ROW OF LawS2773BTable, PROVED, and its tied card.
-/
import Derived.Test.YbulkbekeDoorRows
import Derived.Test.YbulkbekeDoorTie
import Derived.Test.YbulkbekeDoorCards
import Derived.Test.YbulkbekeDoorWalks
import Derived.Test.YbulkbekeDoorLook
import Derived.ChangeBears2
namespace Go.Proofs.YbulkbekeDoor
open Go.ChangeShapes Go.WideShapes Go.ChangeAt Go.WideMaps Go.WideElems Go.RowKit Go.Maps
open Go.ChangeMaps (open_string shut_string)

set_option maxHeartbeats 1600000 in
set_option maxRecDepth 100000 in
theorem table_lifted (os : Os) (started : os.Started) (H : Type) (enc : TypeId × Value → H) :
    ReturnsInHanded {} Ybad.checked os 3 .any (fun w args => (Rows.lawS2773BTableSpec.pre enc Ybad.prog Ybad.f3 [] false w args ∧ laidMetH Ybad.prog laid1 w) ∧ sizedMet enc Ybad.prog Ybad.f3 (OpenSpec.ofChange Rows.lawS2773BTableSpec) false w args)
      (Rows.lawS2773BTableSpec.post enc Ybad.prog Ybad.f3 false true false false) := by
  refine returnsInHanded_of_change_and (C := Ybad.checked) (X := fun w _ => laidMetH Ybad.prog laid1 w) (fun _ _ _ hh h => h.of_heap hh) own started (by kernel_rfl) Ybad.func3
    (ChangeSpec.witness_shaped (enc := enc) (C := Ybad.checked) (os := os) (X := fun w _ => laidMetH Ybad.prog laid1 w) false (World.doorLaid Ybad.prog 44 os) #[.int .u8 0, .string ⟨#[]⟩, .string ⟨#[]⟩, .int .i64 0] 8 rfl (World.shaped_of_RefB (by kernel_rfl) (by kernel_rfl)) (by kernel_rfl) (by kernel_rfl) (by kernel_rfl) (door_met os _)) ?_
  intro W base args ds gs before hval0 hW _ _ hL _
  have hval : ∀ (j : Nat) t v, Ybad.f3.params[j]? = some t → args[j]? = some v → Value.okWide Ybad.prog W .any base t v := hval0
  have hW' := hW
  obtain ⟨p, q, hA0, hV0, rfl, hfz, hnd⟩ := hW
  have hA : DataW.TrodAll enc Ybad.prog W 0 (fun _ => true) true Ybad.f3.params.toList args.toList ds p := hA0
  have hV : DataW.TrodVars enc Ybad.prog W (fun _ => true) [opsName] gs q := hV0
  rw [Ybad.params3] at hA hval
  obtain ⟨v0, v1, v2, v3, d0, d1, d2, d3, p0, p1, p2, p3, rfl, rfl, rfl, h0, h1, h2, h3⟩ := trodAll_four hA
  obtain ⟨g, t, cs, fuel, d, p', rfl, hg, ht, hvar, hd, rfl⟩ := trodVars_one hV
  obtain rfl := Option.some.inj (gOps.symm.trans hg)
  obtain rfl := Option.some.inj (tOps.symm.trans ht)
  obtain ⟨s, rfl, rfl, rfl, ws⟩ := open_int Ybad.underlying5 (hval 0 5 v0 rfl rfl) h0
  obtain ⟨text, rfl, rfl, rfl, wt⟩ := open_string Ybad.underlying9 (hval 1 9 v1 rfl rfl) h1
  obtain ⟨cut, rfl, rfl, rfl, wc⟩ := open_string Ybad.underlying9 (hval 2 9 v2 rfl rfl) h2
  obtain ⟨off, rfl, rfl, rfl, wo⟩ := open_int Ybad.underlying3 (hval 3 3 v3 rfl rfl) h3
  clear hA0 hV0 hval0 hA hV
  have hltv : ∀ x ∈ p', x.block < W.heap.size := fun x hx => hW'.lt x (List.mem_append_right _ (List.mem_append_right _ hx))
  obtain ⟨bm, hc, hp0, hlook⟩ := of_laid hL
  have hb := bounds_u8 ws
  have hcs : cs = #[.map (some bm)] := by
    have h1 := World.var?_cell hg hvar 0
    rw [hc] at h1
    rcases open_map Ybad.underlying42 hd with ⟨hcs, _⟩ | ⟨bm', es, clock, m, _, hcs, _⟩
    · rw [Array.eq_one_of_toList hcs] at h1; simp at h1
    · rw [Array.eq_one_of_toList hcs] at h1 ⊢; simp at h1; rw [h1]
  subst hcs
  refine (table_any (.map (some bm)) s off text cut W hb.1 hb.2 hc hp0 hlook).mono fun e W' ⟨he, hB⟩ => ?_
  subst he
  obtain ⟨fuel', hd'⟩ := Below.trod laidOut (by kernel_rfl) (of_decide_eq_true (by kernel_rfl)) (v := .map (some bm)) (⟨fuel, by simpa [Value.cells] using hd⟩ : DataW.Trod enc Ybad.prog W 0 (fun _ => true) true 42 (.map (some bm)) d p') hB hltv
  have hv' := trodVars_mk1 (enc := enc) (spare := fun b => decide (b < W.heap.size)) hg ht (var?_below hB hg hp0 hvar) (by simpa [Value.cells] using hd')
  refine ⟨_, rfl, _, _, _, [], [], (MemPlace.row ⟨0, 0, none⟩ (#[.map (some bm)] : Array Value).size ++ p'), hW', ?_, ?_, ?_, hB.frame _, fun h => by cases h⟩
  · exact trodAll_mk1 (shut_bool Ybad.underlying4 _)
  · exact trodAll_mk4 (shut_int Ybad.underlying5 ws) (shut_string Ybad.underlying9 wt) (shut_string Ybad.underlying9 wc) (shut_int Ybad.underlying3 wo)
  · exact hv'

theorem table_holds : Rows.LawS2773BTableSaid :=
  OpenClaim.holds_of_wide 3 Ybad.f3 rfl rfl rfl rfl rfl rfl rfl ⟨rfl, rfl, rfl, rfl, rfl⟩ rfl rfl rfl rfl rfl (by kernel_rfl) Ybad.func3 (by kernel_rfl)
    (of_decide_eq_true (by kernel_rfl)) (by unfold Func.isWrapper; first | (rw [if_pos (by decide +kernel)]; kernel_rfl) | (rw [if_neg (by decide +kernel)]; exact ⟨rfl, rfl⟩))
    (fun os started H enc _ => table_lifted os started H enc)

theorem table_card_holds : Rows.LawS2773BTableCardSaid :=
  Claim7.holds_tied_plain_at .later [] [.mapped] true (true, "2356e120756828b8a53bc6e8a9702210c1a0810d5858b3665f14f266b1570ec1") false
    table_holds (fun _ h => by cases h) (by kernel_rfl) (fun _ h => by cases h) lawS2773BTable_row_tie rfl ⟨rfl, rfl⟩ (by kernel_rfl) rfl
    (fun f fn hf hfn => by
      obtain rfl : f = 3 := Option.some.inj ((show Ybad.prog.funcNamed Ybad.f3.name = some 3 by kernel_rfl).symm.trans hf) |>.symm
      obtain rfl : fn = Ybad.f3 := (Option.some.inj (Ybad.func3.symm.trans hfn)).symm
      exact ⟨by kernel_rfl, fun j t ht => by
        rw [Ybad.params3] at ht
        have hm : t ∈ [5, 9, 9, 3] := by simpa using Array.mem_of_getElem? ht
        have hall : ([5, 9, 9, 3].all fun u => !Ybad.prog.wantsStandIn u) = true := by kernel_rfl
        exact (show Ybad.prog.wantsStandIn t = false by simpa using List.all_eq_true.1 hall t hm)⟩)
    (by kernel_rfl)

#print axioms table_card_holds
end Go.Proofs.YbulkbekeDoor
