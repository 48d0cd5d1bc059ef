/-
  errors.Is AT A *fmt.wrapError THAT WRAPS THE SENTINEL; fmt.Errorf WITH '%w' OF A SENTINEL (seat b2775aF), after the guide's SentryIs.lean and GuardFmt.lean, at this dump's numbers.
-/
import Derived.Test.YbulkbelgFmtFacts
import Derived.LaidEql
import Derived.Stop.Asserts
import Derived.RowKitTokens
namespace Go.Proofs.YbulkbelgFmt
open Go.RowKit Go.Extern.Stop Go.Stop Go.Extern

theorem isTypeOf (v : Value) (w : World) : (Extern.ReflectliteType.typeOf #[.iface 58 v]).run Ybaf.prog w = .ok (.iface 49 (.agg #[.pointer (some ⟨1, 58, none⟩)])) w := by kernel_rfl
theorem callComparable (w : World) : (callFunc 37 #[.agg #[.pointer (some ⟨1, 58, none⟩)]]).run Ybaf.prog w = .ok (.value (.bool true)) w := by
  rw [run_callFunc_extern (e := Extern.ReflectliteType.method fun t => do Extern.Rtype.noPackHeld "Comparable" t; pure (.bool (← typeInfo t).comparable)) Ybaf.func37 (by kernel_rfl) (by kernel_rfl) (by kernel_rfl) (by kernel_rfl)]
  kernel_rfl
theorem isMethodComparable (n : Nat) (v : Value) (w : World) : (Go.method (n + 2) 49 v "Comparable").run Ybaf.prog w = .ok (37, v) w := by kernel_rfl
theorem isComp : (Ybaf.prog.info? 58).map (·.comparable) = some true := by kernel_rfl
theorem isSize : (Ybaf.prog.info? 60).map (·.size) = some 1 := by kernel_rfl
theorem noIsE (v : Value) (xT : TypeId) (w : World) : (Instr.typeAssert (.iface 58 v) xT 51 true).run Ybaf.prog w = .ok (.tuple #[.nilIface, .bool false]) w := run_typeAssert_lacksB Ybaf.underlying51 (by kernel_rfl) (by kernel_rfl) v xT w
theorem noIsW (v : Value) (xT : TypeId) (w : World) : (Instr.typeAssert (.iface 47 v) xT 51 true).run Ybaf.prog w = .ok (.tuple #[.nilIface, .bool false]) w := run_typeAssert_lacksB Ybaf.underlying51 (by kernel_rfl) (by kernel_rfl) v xT w
theorem hasUnwrapW (v : Value) (xT : TypeId) (w : World) : (Instr.typeAssert (.iface 47 v) xT 54 true).run Ybaf.prog w = .ok (.tuple #[.iface 47 v, .bool true]) w := run_typeAssert_hasB Ybaf.underlying54 (by kernel_rfl) v xT w
theorem methodUnwrap (n : Nat) (v : Value) (w : World) : (Go.method (n + 2) 47 v "Unwrap").run Ybaf.prog w = .ok (33, v) w := by kernel_rfl

set_option maxHeartbeats 800000 in
/-- errors.Is(e, x), e a *fmt.wrapError that wraps x itself: one Unwrap, then equal. -/
theorem is_wrap_same (pb po : Nat) (b : Addr) (w : World) (h1 : w.cell? ⟨pb, po + 1, none⟩ = some (.iface 58 (.pointer (some b)))) :
    Calls Ybaf.prog 8 #[.iface 47 (.pointer (some ⟨pb, po, none⟩)), .iface 58 (.pointer (some b))] w fun e w' => e = .returned (.bool true) ∧ w' = w := by
  obtain ⟨i, hi, hcmp⟩ := Option.map_eq_some_iff.1 isComp
  obtain ⟨j, hj, hjs⟩ := Option.map_eq_some_iff.1 isSize
  have h12 := @run_callFunc_extern Ybaf.prog 12 _ Extern.ReflectliteType.typeOf Ybaf.func12 (by kernel_rfl) (by kernel_rfl) (by kernel_rfl) (by kernel_rfl)
  have h37 := callComparable
  have tT := isTypeOf
  have mR := isMethodComparable
  have nE := noIsE
  have nW := noIsW
  have uW := hasUnwrapW
  have mU := methodUnwrap
  have heq := run_eql_iface_ptr_same (P := Ybaf.prog) w b Ybaf.underlying25 Ybaf.underlying58 hi hcmp hj
  have hty := run_eql_iface_types (P := Ybaf.prog) 47 58 (.pointer (some ⟨pb, po, none⟩)) (.pointer (some b)) Ybaf.underlying25 (by decide) w
  go_enter Ybaf.func8, Ybaf.ntmps8
  go_wp2
  refine wp_loop_rounds 2 ?_
  rw [rounds_succ]
  go_wp2
  rw [rounds_succ]
  go_wp2
  go_ret
  exact ⟨rfl, rfl⟩
end Go.Proofs.YbulkbelgFmt
