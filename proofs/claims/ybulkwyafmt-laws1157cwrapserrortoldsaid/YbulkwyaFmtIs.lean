import Derived.Test.YbulkwyaFmtResolve
import Derived.LaidEql
import Derived.Stop.Asserts
import Derived.RowKitTokens
namespace Go.Proofs.YbulkwyaFmt
open Go.RowKit Go.Extern.Stop Go.Stop Go.Extern

/-! ### Closed facts: reflectlite.TypeOf(target).Comparable(); what the assertions of errors.is and errors.as find -/
theorem typeOf43 (v : Value) (w : World) : (callFunc 9 #[.iface 43 v]).run Ybaf.prog w = .ok (.value (.iface 70 (.agg #[.pointer (some ⟨1, 43, none⟩)]))) w := by kernel_rfl
theorem typeOf68 (v : Value) (w : World) : (callFunc 9 #[.iface 68 v]).run Ybaf.prog w = .ok (.value (.iface 70 (.agg #[.pointer (some ⟨1, 68, none⟩)]))) w := by kernel_rfl
theorem comparable43 (w : World) : (callFunc 48 #[.agg #[.pointer (some ⟨1, 43, none⟩)]]).run Ybaf.prog w = .ok (.value (.bool true)) w := by kernel_rfl
theorem methodComparable (v : Value) (w : World) : (Go.method 225 70 v "Comparable").run Ybaf.prog w = .ok (48, v) w := by kernel_rfl
theorem comp43 : (Ybaf.prog.info? 43).map (·.comparable) = some true := by kernel_rfl
theorem size45 : (Ybaf.prog.info? 45).map (·.size) = some 1 := by kernel_rfl
theorem noIs43 (v : Value) (xT : TypeId) (w : World) : (Instr.typeAssert (.iface 43 v) xT 72 true).run Ybaf.prog w = .ok (.tuple #[.nilIface, .bool false]) w := run_typeAssert_lacksB Ybaf.underlying72 (by kernel_rfl) (by kernel_rfl) v xT w
theorem noIs68 (v : Value) (xT : TypeId) (w : World) : (Instr.typeAssert (.iface 68 v) xT 72 true).run Ybaf.prog w = .ok (.tuple #[.nilIface, .bool false]) w := run_typeAssert_lacksB Ybaf.underlying72 (by kernel_rfl) (by kernel_rfl) v xT w
theorem noAs68 (v : Value) (xT : TypeId) (w : World) : (Instr.typeAssert (.iface 68 v) xT 82 true).run Ybaf.prog w = .ok (.tuple #[.nilIface, .bool false]) w := run_typeAssert_lacksB Ybaf.underlying82 (by kernel_rfl) (by kernel_rfl) v xT w
theorem hasUnwrap68 (v : Value) (xT : TypeId) (w : World) : (Instr.typeAssert (.iface 68 v) xT 75 true).run Ybaf.prog w = .ok (.tuple #[.iface 68 v, .bool true]) w := run_typeAssert_hasB Ybaf.underlying75 (by kernel_rfl) v xT w
theorem methodUnwrap (v : Value) (w : World) : (Go.method 225 68 v "Unwrap").run Ybaf.prog w = .ok (45, v) w := by kernel_rfl

set_option maxHeartbeats 4000000 in
set_option maxRecDepth 100000 in
/-- errors.Is(e, x), e a *fmt.wrapError that wraps x: one Unwrap, then equal. -/
theorem is_wrap (pb : Nat) (b : Addr) (w : World) (h1 : w.cell? ⟨pb, 1, none⟩ = some (.iface 43 (.pointer (some b)))) :
    Calls Ybaf.prog 6 #[.iface 68 (.pointer (some ⟨pb, 0, none⟩)), .iface 43 (.pointer (some b))] w fun e w' => e = .returned (.bool true) ∧ w = w' := by
  obtain ⟨i, hi, hcmp⟩ := Option.map_eq_some_iff.1 comp43
  obtain ⟨j, hj, hjs⟩ := Option.map_eq_some_iff.1 size45
  have tT := typeOf43
  have cT := comparable43
  have mR := methodComparable
  have nW := noIs68
  have uW := hasUnwrap68
  have mU := methodUnwrap
  have heq := run_eql_iface_ptr_same (P := Ybaf.prog) w b Ybaf.underlying32 Ybaf.underlying43 hi hcmp hj
  have hty := run_eql_iface_types (P := Ybaf.prog) 68 43 (.pointer (some ⟨pb, 0, none⟩)) (.pointer (some b)) Ybaf.underlying32 (by decide) w
  go_enter Ybaf.func6, Ybaf.ntmps6
  go_wp2
  refine wp_loop_rounds 2 ?_
  rw [rounds_succ]
  go_wp2
  rw [rounds_succ]
  go_wp2
  go_ret
  exact ⟨rfl, rfl⟩
end Go.Proofs.YbulkwyaFmt
