import Derived.Test.YbulkwyaFmtIs
namespace Go.Proofs.YbulkwyaFmt
open Go.RowKit Go.Extern.Stop Go.Stop Go.Extern

/-! ### Closed facts on the model's entries for internal/reflectlite at this program's types: 43: the error's pointer type, 48: a pointer to that, 68: *fmt.wrapError, 32: error, 70: rtype, 59: Value -/
theorem valueOf48 (t : Addr) (w : World) : (callFunc 11 #[.iface 48 (.pointer (some t))]).run Ybaf.prog w
    = .ok (.value (.agg #[.pointer (some ⟨1, 48, none⟩), .pointer (some ⟨w.heap.size, 0, none⟩), .int .u64 150])) (w.alloc (.cells #[.pointer (some t)] 48)) := by kernel_rfl
theorem valueOf43 (e : Addr) (w : World) : (callFunc 11 #[.iface 43 (.pointer (some e))]).run Ybaf.prog w
    = .ok (.value (.agg #[.pointer (some ⟨1, 43, none⟩), .pointer (some ⟨w.heap.size, 0, none⟩), .int .u64 150])) (w.alloc (.cells #[.pointer (some e)] 43)) := by kernel_rfl
theorem type48 (a : Addr) (w : World) : (callFunc 12 #[.agg #[.pointer (some ⟨1, 48, none⟩), .pointer (some a), .int .u64 150]]).run Ybaf.prog w
    = .ok (.value (.iface 70 (.agg #[.pointer (some ⟨1, 48, none⟩)]))) w := by kernel_rfl
theorem methodKind (h : Value) (w : World) : (Go.method 225 70 (.agg #[h]) "Kind").run Ybaf.prog w = .ok (33, h) w := by kernel_rfl
theorem kind48 (w : World) : (callFunc 33 #[.pointer (some ⟨1, 48, none⟩)]).run Ybaf.prog w = .ok (.value (.int .u8 22)) w := by kernel_rfl
theorem kind43 (w : World) : (callFunc 33 #[.pointer (some ⟨1, 43, none⟩)]).run Ybaf.prog w = .ok (.value (.int .u8 22)) w := by kernel_rfl
theorem methodElem (h : Value) (w : World) : (Go.method 225 70 (.agg #[h]) "Elem").run Ybaf.prog w = .ok (49, .agg #[h]) w := by kernel_rfl
theorem methodImplements (h : Value) (w : World) : (Go.method 225 70 (.agg #[h]) "Implements").run Ybaf.prog w = .ok (50, .agg #[h]) w := by kernel_rfl
theorem methodAssignableTo (h : Value) (w : World) : (Go.method 225 70 (.agg #[h]) "AssignableTo").run Ybaf.prog w = .ok (47, .agg #[h]) w := by kernel_rfl
theorem elem48 (w : World) : (callFunc 49 #[.agg #[.pointer (some ⟨1, 48, none⟩)]]).run Ybaf.prog w = .ok (.value (.iface 70 (.agg #[.pointer (some ⟨1, 43, none⟩)]))) w := by kernel_rfl
theorem implements43 (w : World) : (callFunc 50 #[.agg #[.pointer (some ⟨1, 43, none⟩)], .iface 70 (.agg #[.pointer (some ⟨1, 32, none⟩)])]).run Ybaf.prog w = .ok (.value (.bool true)) w := by kernel_rfl
theorem assignable43 (w : World) : (callFunc 47 #[.agg #[.pointer (some ⟨1, 43, none⟩)], .iface 70 (.agg #[.pointer (some ⟨1, 43, none⟩)])]).run Ybaf.prog w = .ok (.value (.bool true)) w := by kernel_rfl
theorem assignable68 (w : World) : (callFunc 47 #[.agg #[.pointer (some ⟨1, 68, none⟩)], .iface 70 (.agg #[.pointer (some ⟨1, 43, none⟩)])]).run Ybaf.prog w = .ok (.value (.bool false)) w := by kernel_rfl

/-! ### The entries that read or write memory -/
theorem rlm (z : Sem Value) (f : TypeId → Addr → Nat → Nat → Sem Value) (v : Value) :
    ReflectliteValue.method z f #[v] = (do match ← ReflectliteValue.parts v with | none => z | some (t, a, fl) => f t a fl (fl % 32)) := rfl
theorem parts48 (a : Addr) (w : World) : (ReflectliteValue.parts (.agg #[.pointer (some ⟨1, 48, none⟩), .pointer (some a), .int .u64 150])).run Ybaf.prog w = .ok (some (48, a, 150)) w := by kernel_rfl
theorem isNil48 (a p : Addr) (W : World) (ha : W.cell? a = some (.pointer (some p))) :
    (callFunc 13 #[.agg #[.pointer (some ⟨1, 48, none⟩), .pointer (some a), .int .u64 150]]).run Ybaf.prog W = .ok (.value (.bool false)) W := by
  have h13 := @run_callFunc_extern Ybaf.prog 13 _ (ReflectliteValue.method (ReflectliteValue.valueError "reflectlite.Value.IsNil" 0) ReflectliteValue.isNil) Ybaf.func13 (by kernel_rfl) (by kernel_rfl) (by kernel_rfl) (by kernel_rfl)
  rw [h13, rlm]
  simp only [Sem.run_bind, parts48, Result.andThen]
  simp [ReflectliteValue.isNil, loadVar, isAgg, underlying, Ybaf.underlying48, ha, Result.andThen]

theorem elemOf48 (w : World) : (Rtype.elem? 48).run Ybaf.prog w = .ok (some 43) w := by kernel_rfl
theorem mk43 (p : Addr) (w : World) : (ReflectliteValue.mk 43 p ReflectliteValue.flagAddr).run Ybaf.prog w = .ok (.agg #[.pointer (some ⟨1, 43, none⟩), .pointer (some p), .int .u64 406]) w := by kernel_rfl
theorem elemV48 (a p : Addr) (W : World) (ha : W.cell? a = some (.pointer (some p))) :
    (callFunc 17 #[.agg #[.pointer (some ⟨1, 48, none⟩), .pointer (some a), .int .u64 150]]).run Ybaf.prog W
      = .ok (.value (.agg #[.pointer (some ⟨1, 43, none⟩), .pointer (some p), .int .u64 406])) W := by
  have h17 := @run_callFunc_extern Ybaf.prog 17 _ (ReflectliteValue.method (ReflectliteValue.valueError "reflectlite.Value.Elem" 0) ReflectliteValue.elem) Ybaf.func17 (by kernel_rfl) (by kernel_rfl) (by kernel_rfl) (by kernel_rfl)
  rw [h17, rlm]
  simp only [Sem.run_bind, parts48, Result.andThen]
  simp [ReflectliteValue.elem, loadVar, isAgg, underlying, Ybaf.underlying48, ha, Result.andThen, elemOf48, mk43]

theorem parts43a (a : Addr) (w : World) : (ReflectliteValue.parts (.agg #[.pointer (some ⟨1, 43, none⟩), .pointer (some a), .int .u64 406])).run Ybaf.prog w = .ok (some (43, a, 406)) w := by kernel_rfl
theorem parts43 (a : Addr) (w : World) : (ReflectliteValue.parts (.agg #[.pointer (some ⟨1, 43, none⟩), .pointer (some a), .int .u64 150])).run Ybaf.prog w = .ok (some (43, a, 150)) w := by kernel_rfl
theorem direct43 (w : World) : (Rtype.directlyAssignable 43 43).run Ybaf.prog w = .ok true w := by kernel_rfl
theorem set43 (ta b e : Addr) (old : Value) (W : World) (hb : W.cell? b = some (.pointer (some e))) (ht : W.cell? ta = some old) (hf : W.frozen? ta = false) :
    (callFunc 18 #[.agg #[.pointer (some ⟨1, 43, none⟩), .pointer (some ta), .int .u64 406], .agg #[.pointer (some ⟨1, 43, none⟩), .pointer (some b), .int .u64 150]]).run Ybaf.prog W
      = .ok (.value (.tuple #[])) (W.setCell ta (.pointer (some e))) := by
  have h18 := @run_callFunc_extern Ybaf.prog 18 _ ReflectliteValue.set Ybaf.func18 (by kernel_rfl) (by kernel_rfl) (by kernel_rfl) (by kernel_rfl)
  rw [h18]
  unfold ReflectliteValue.set ReflectliteValue.set.match_3
  simp [parts43a, parts43, Result.andThen, ReflectliteValue.flagAddr, loadVar, isAgg, underlying, Ybaf.underlying43, hb, direct43, storeVar, Value.cells, storeCells, Addr.add, Array.getLit, List.toArray]
  rw [run_store Ybaf.prog W ta _ _ (by rfl)]
  simp [ht, hf]
end Go.Proofs.YbulkwyaFmt
