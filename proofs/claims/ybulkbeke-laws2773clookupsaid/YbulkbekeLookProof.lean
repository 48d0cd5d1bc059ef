/-
  THE ROW OF LawS2773CLookUp, PROVED.
-/
import Derived.Test.YbulkbekeRows
import Derived.Test.YbulkbekeLook
import Derived.Test.YbulkbekeOpen
namespace Go.Proofs.Ybulkbeke
open Go.ChangeShapes Go.WideShapes Go.ChangeAt Go.RowKit
open Go.ChangeMaps (open_string shut_string)

set_option maxHeartbeats 400000 in
theorem look_long (a : Option Addr) (n cap : Nat) (v1 v2 : Value) (w : World) (hn : 1024 < n) :
    Calls Yba.prog 4 #[.slice a n cap, v1, v2] w fun e w' => e = .returned (.bool true) ∧ Below w.heap.size w w' := by
  have t0 : decide (1024 < (n : Int)) = true := by simp; omega
  go_enter Yba.func4, Yba.ntmps4
  go_wp2
  go_ret
  exact ⟨rfl, Below.refl _ _⟩

set_option maxHeartbeats 1600000 in
set_option maxRecDepth 100000 in
theorem look_lifted (os : Os) (started : os.Started) (H : Type) (enc : TypeId × Value → H) :
    ReturnsInHanded {} Yba.checked os 4 .any (Rows.lawS2773CLookUpSpec.pre6 enc Yba.prog Yba.f4 Rows.lawS2773CLookUpRow.domain false) (Rows.lawS2773CLookUpSpec.post enc Yba.prog Yba.f4 false true false false) := by
  refine returnsInHanded_of_change (C := Yba.checked) own started (by kernel_rfl) Yba.func4
    (ChangeSpec.witness6 (enc := enc) (C := Yba.checked) false ⟨#[], #[.slice none 0 0, .slice none 0 0, .string ⟨#[]⟩], []⟩ 8 (by kernel_rfl) (by kernel_rfl) (by kernel_rfl) (by kernel_rfl)) ?_
  intro W base args ds gs before hval0 hW hcnd _
  have hval : ∀ (j : Nat) t v, Yba.f4.params[j]? = some t → args[j]? = some v → Value.okWide Yba.prog W .any base t v := hval0
  have hW' := hW
  obtain ⟨p, q, hA0, hV, rfl, hfz, hnd⟩ := hW
  have hA : DataW.TrodAll enc Yba.prog W 0 (fun _ => true) true Yba.f4.params.toList args.toList ds p := hA0
  rw [Yba.params4] at hA hval
  obtain ⟨v0, vs0, d0, ds0, p0, q0, hargs, rfl, rfl, h0, r0⟩ := trodAll_cons hA
  obtain ⟨v1, vs1, d1, ds1, p1, q1, rfl, rfl, rfl, h1, r1⟩ := trodAll_cons r0
  obtain ⟨v2, vs2, d2, ds2, p2, q2, rfl, rfl, rfl, h2, r2⟩ := trodAll_cons r1
  obtain ⟨rfl, rfl, rfl⟩ := trodAll_nil r2
  obtain rfl : args = #[v0, v1, v2] := by cases args; simp_all
  obtain ⟨rfl, rfl⟩ := trodVars_none hV
  obtain ⟨a0, len0, cap0, rfl⟩ := okWide_slice Yba.underlying22 (hval 0 22 v0 rfl rfl)
  obtain ⟨a1, len1, cap1, rfl⟩ := okWide_slice Yba.underlying23 (hval 1 23 v1 rfl rfl)
  have k0 := h0
  have k1 := h1
  have lt0 : ∀ x ∈ p0, x.block < W.heap.size := by obtain ⟨m, hm⟩ := k0; exact DataW.trod_lt m _ _ _ hm
  have lt1 : ∀ x ∈ p1, x.block < W.heap.size := by obtain ⟨m, hm⟩ := k1; exact DataW.trod_lt m _ _ _ hm
  obtain ⟨pr, rfl, rfl, rfl, wp⟩ := open_string Yba.underlying9 (hval 2 9 v2 rfl rfl) h2
  clear hA0 hval0 hA r0 r1 r2
  have hw : Calls Yba.prog 4 #[.slice a0 len0 cap0, .slice a1 len1 cap1, .string pr] W fun e w' => e = .returned (.bool true) ∧ Below W.heap.size W w' := by
    by_cases hn : len0 ≤ 1024
    · obtain ⟨ks, hk⟩ := open_kinds hn h0
      obtain ⟨ss, hs⟩ := open_strs h1
      exact law_look a0 a1 len0 cap0 len1 cap1 ks ss pr W hn wp hk hs
    · exact look_long a0 len0 cap0 _ _ W (by omega)
  refine hw.mono fun e W' ⟨he, bel⟩ => ?_
  subst he
  exact ⟨_, rfl, _, _, _, [], _, [], hW', trodAll_mk1 (shut_bool Yba.underlying4 _), (trodAll_cons_mk (Below.trod laidOut (by kernel_rfl) (of_decide_eq_true (by kernel_rfl)) k0 bel lt0) (trodAll_cons_mk (Below.trod laidOut (by kernel_rfl) (of_decide_eq_true (by kernel_rfl)) k1 bel lt1) (trodAll_cons_mk (shut_string Yba.underlying9 wp) trodAll_mk0))), rfl, bel.frame _, fun h => by cases h⟩

theorem look_holds : Rows.LawS2773CLookUpSaid :=
  OpenClaim.holds_of_wide 4 Yba.f4 rfl rfl rfl rfl rfl rfl rfl ⟨rfl, rfl, rfl, rfl, rfl⟩ rfl rfl rfl rfl rfl (by kernel_rfl) Yba.func4 (by kernel_rfl)
    (of_decide_eq_true (by kernel_rfl)) (by unfold Func.isWrapper; first | (rw [if_pos (by decide +kernel)]; kernel_rfl) | (rw [if_neg (by decide +kernel)]; exact ⟨rfl, rfl⟩))
    (fun os started H enc _ => look_lifted os started H enc)

#print axioms look_holds
end Go.Proofs.Ybulkbeke
