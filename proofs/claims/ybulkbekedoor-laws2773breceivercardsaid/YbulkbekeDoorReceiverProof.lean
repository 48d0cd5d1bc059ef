/-
  THE ROW OF LawS2773BReceiver, PROVED, and its tied card.
-/
import Derived.Test.YbulkbekeDoorRows
import Derived.Test.YbulkbekeDoorTie
import Derived.Test.YbulkbekeDoorCards
import Derived.Test.YbulkbekeDoorWalks2
import Derived.Test.YbulkbekeDoorLook
import Derived.ChangeBears2
namespace Go.Proofs.YbulkbekeDoor
open Go.ChangeShapes Go.WideShapes Go.ChangeAt Go.WideMaps Go.WideElems Go.RowKit Go.Maps
open Go.ChangeMaps (open_string shut_string)

set_option maxHeartbeats 1600000 in
set_option maxRecDepth 100000 in
theorem receiver_lifted (os : Os) (started : os.Started) (H : Type) (enc : TypeId × Value → H) :
    ReturnsInHanded {} Ybad.checked os 4 .any (fun w args => (Rows.lawS2773BReceiverSpec.pre enc Ybad.prog Ybad.f4 [] false w args ∧ laidMetH Ybad.prog laid1 w) ∧ sizedMet enc Ybad.prog Ybad.f4 (OpenSpec.ofChange Rows.lawS2773BReceiverSpec) false w args)
      (Rows.lawS2773BReceiverSpec.post enc Ybad.prog Ybad.f4 false true false false) := by
  refine returnsInHanded_of_change_and (C := Ybad.checked) (X := fun w _ => laidMetH Ybad.prog laid1 w) (fun _ _ _ hh h => h.of_heap hh) own started (by kernel_rfl) Ybad.func4
    (ChangeSpec.witness_shaped (enc := enc) (C := Ybad.checked) (os := os) (X := fun w _ => laidMetH Ybad.prog laid1 w) false (World.doorLaid Ybad.prog 44 os) #[.int .u8 0, .string ⟨#[]⟩, .string ⟨#[]⟩, .int .i64 0, .string ⟨#[]⟩, .string ⟨#[]⟩, .int .i64 0, .int .i64 0] 8 rfl (World.shaped_of_RefB (by kernel_rfl) (by kernel_rfl)) (by kernel_rfl) (by kernel_rfl) (by kernel_rfl) (door_met os _)) ?_
  intro W base args ds gs before hval0 hW _ _ hL _
  have hval : ∀ (j : Nat) t v, Ybad.f4.params[j]? = some t → args[j]? = some v → Value.okWide Ybad.prog W .any base t v := hval0
  have hW' := hW
  obtain ⟨p, q, hA0, hV0, rfl, hfz, hnd⟩ := hW
  have hA : DataW.TrodAll enc Ybad.prog W 0 (fun _ => true) true Ybad.f4.params.toList args.toList ds p := hA0
  have hV : DataW.TrodVars enc Ybad.prog W (fun _ => true) [opsName] gs q := hV0
  rw [Ybad.params4] at hA hval
  obtain ⟨v0, vs0, d0, ds0, p0, q0, hargs, rfl, rfl, h0, r0⟩ := trodAll_cons hA
  obtain ⟨v1, vs1, d1, ds1, p1, q1, rfl, rfl, rfl, h1, r1⟩ := trodAll_cons r0
  obtain ⟨v2, vs2, d2, ds2, p2, q2, rfl, rfl, rfl, h2, r2⟩ := trodAll_cons r1
  obtain ⟨v3, vs3, d3, ds3, p3, q3, rfl, rfl, rfl, h3, r3⟩ := trodAll_cons r2
  obtain ⟨v4, vs4, d4, ds4, p4, q4, rfl, rfl, rfl, h4, r4⟩ := trodAll_cons r3
  obtain ⟨v5, vs5, d5, ds5, p5, q5, rfl, rfl, rfl, h5, r5⟩ := trodAll_cons r4
  obtain ⟨v6, vs6, d6, ds6, p6, q6, rfl, rfl, rfl, h6, r6⟩ := trodAll_cons r5
  obtain ⟨v7, vs7, d7, ds7, p7, q7, rfl, rfl, rfl, h7, r7⟩ := trodAll_cons r6
  obtain ⟨rfl, rfl, rfl⟩ := trodAll_nil r7
  obtain rfl : args = #[v0, v1, v2, v3, v4, v5, v6, v7] := by cases args; simp_all
  obtain ⟨g, t, cs, fuel, d, p', rfl, hg, ht, hvar, hd, rfl⟩ := trodVars_one hV
  obtain rfl := Option.some.inj (gOps.symm.trans hg)
  obtain rfl := Option.some.inj (tOps.symm.trans ht)
  obtain ⟨s, rfl, rfl, rfl, ws⟩ := open_int Ybad.underlying5 (hval 0 5 v0 rfl rfl) h0
  obtain ⟨text, rfl, rfl, rfl, wt⟩ := open_string Ybad.underlying9 (hval 1 9 v1 rfl rfl) h1
  obtain ⟨cut, rfl, rfl, rfl, wc⟩ := open_string Ybad.underlying9 (hval 2 9 v2 rfl rfl) h2
  obtain ⟨off, rfl, rfl, rfl, wo⟩ := open_int Ybad.underlying3 (hval 3 3 v3 rfl rfl) h3
  obtain ⟨ends, rfl, rfl, rfl, we⟩ := open_string Ybad.underlying9 (hval 4 9 v4 rfl rfl) h4
  obtain ⟨src, rfl, rfl, rfl, wsr⟩ := open_string Ybad.underlying9 (hval 5 9 v5 rfl rfl) h5
  obtain ⟨pos, rfl, rfl, rfl, wp⟩ := open_int Ybad.underlying3 (hval 6 3 v6 rfl rfl) h6
  obtain ⟨nest, rfl, rfl, rfl, wn⟩ := open_int Ybad.underlying3 (hval 7 3 v7 rfl rfl) h7
  clear hA0 hV0 hval0 hA hV r0 r1 r2 r3 r4 r5 r6 r7 hargs
  have hltv : ∀ x ∈ p', x.block < W.heap.size := fun x hx => hW'.lt x (List.mem_append_right _ (List.mem_append_right _ hx))
  obtain ⟨bm, hc, hp0, hlook⟩ := of_laid hL
  have hb := bounds_u8 ws
  have hcs : cs = #[.map (some bm)] := by
    have h1 := World.var?_cell hg hvar 0
    rw [hc] at h1
    rcases open_map Ybad.underlying42 hd with ⟨hcs, _⟩ | ⟨bm', es, clock, m, _, hcs, _⟩
    · rw [Array.eq_one_of_toList hcs] at h1; simp at h1
    · rw [Array.eq_one_of_toList hcs] at h1 ⊢; simp at h1; rw [h1]
  subst hcs
  refine (receiver_any (.map (some bm)) s off pos nest text cut ends src W hb.1 hb.2 hc hp0 hlook).mono fun e W' ⟨he, hB⟩ => ?_
  subst he
  obtain ⟨fuel', hd'⟩ := Below.trod laidOut (by kernel_rfl) (of_decide_eq_true (by kernel_rfl)) (v := .map (some bm)) (⟨fuel, by simpa [Value.cells] using hd⟩ : DataW.Trod enc Ybad.prog W 0 (fun _ => true) true 42 (.map (some bm)) d p') hB hltv
  have hv' := trodVars_mk1 (enc := enc) (spare := fun b => decide (b < W.heap.size)) hg ht (var?_below hB hg hp0 hvar) (by simpa [Value.cells] using hd')
  refine ⟨_, rfl, _, _, _, [], [], (MemPlace.row ⟨0, 0, none⟩ (#[.map (some bm)] : Array Value).size ++ p'), hW', ?_, ?_, ?_, hB.frame _, fun h => by cases h⟩
  · exact trodAll_mk1 (shut_bool Ybad.underlying4 _)
  · exact trodAll_cons_mk (shut_int Ybad.underlying5 ws) (trodAll_cons_mk (shut_string Ybad.underlying9 wt) (trodAll_cons_mk (shut_string Ybad.underlying9 wc) (trodAll_cons_mk (shut_int Ybad.underlying3 wo) (trodAll_cons_mk (shut_string Ybad.underlying9 we) (trodAll_cons_mk (shut_string Ybad.underlying9 wsr) (trodAll_cons_mk (shut_int Ybad.underlying3 wp) (trodAll_cons_mk (shut_int Ybad.underlying3 wn) trodAll_mk0)))))))
  · exact hv'

theorem receiver_holds : Rows.LawS2773BReceiverSaid :=
  OpenClaim.holds_of_wide 4 Ybad.f4 rfl rfl rfl rfl rfl rfl rfl ⟨rfl, rfl, rfl, rfl, rfl⟩ rfl rfl rfl rfl rfl (by kernel_rfl) Ybad.func4 (by kernel_rfl)
    (of_decide_eq_true (by kernel_rfl)) (by unfold Func.isWrapper; first | (rw [if_pos (by decide +kernel)]; kernel_rfl) | (rw [if_neg (by decide +kernel)]; exact ⟨rfl, rfl⟩))
    (fun os started H enc _ => receiver_lifted os started H enc)

theorem receiver_card_holds : Rows.LawS2773BReceiverCardSaid :=
  Claim7.holds_tied_plain_at .later [] [.mapped] true (true, "2356e120756828b8a53bc6e8a9702210c1a0810d5858b3665f14f266b1570ec1") false
    receiver_holds (fun _ h => by cases h) (by kernel_rfl) (fun _ h => by cases h) lawS2773BReceiver_row_tie rfl ⟨rfl, rfl⟩ (by kernel_rfl) rfl
    (fun f fn hf hfn => by
      obtain rfl : f = 4 := Option.some.inj ((show Ybad.prog.funcNamed Ybad.f4.name = some 4 by kernel_rfl).symm.trans hf) |>.symm
      obtain rfl : fn = Ybad.f4 := (Option.some.inj (Ybad.func4.symm.trans hfn)).symm
      exact ⟨by kernel_rfl, fun j t ht => by
        rw [Ybad.params4] at ht
        have hm : t ∈ [5, 9, 9, 3, 9, 9, 3, 3] := by simpa using Array.mem_of_getElem? ht
        have hall : ([5, 9, 9, 3, 9, 9, 3, 3].all fun u => !Ybad.prog.wantsStandIn u) = true := by kernel_rfl
        exact (show Ybad.prog.wantsStandIn t = false by simpa using List.all_eq_true.1 hall t hm)⟩)
    (by kernel_rfl)

#print axioms receiver_card_holds
end Go.Proofs.YbulkbekeDoor
