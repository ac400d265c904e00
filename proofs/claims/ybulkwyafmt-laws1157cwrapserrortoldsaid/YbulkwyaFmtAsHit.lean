import Derived.Test.YbulkwyaFmtAs
namespace Go.Proofs.YbulkwyaFmt
open Go.RowKit Go.Extern.Stop Go.Stop Go.Extern

set_option maxHeartbeats 4000000 in
set_option maxRecDepth 100000 in
/-- errors.As(err, &t), err a *fmt.wrapError that wraps e, t of e's own type: true; t is e. -/
theorem as_wrap (pb : Nat) (e t : Addr) (old : Value) (w : World) (hg : w.cell? ⟨0, 0, none⟩ = some (.iface 70 (.agg #[.pointer (some ⟨1, 32, none⟩)]))) (h1 : w.cell? ⟨pb, 1, none⟩ = some (.iface 43 (.pointer (some e)))) (ht0 : w.cell? t = some old) (hf0 : w.frozen? t = false) :
    Calls Ybaf.prog 7 #[.iface 68 (.pointer (some ⟨pb, 0, none⟩)), .iface 48 (.pointer (some t))] w fun ev w' => ev = .returned (.bool true) ∧ w' = ((((w.alloc (.cells #[.pointer (some t)] 48)).alloc (.cells #[.pointer (some ⟨1, 48, none⟩), .pointer (some ⟨w.heap.size, 0, none⟩), .int .u64 150] 59)).alloc (.cells #[.pointer (some ⟨1, 48, none⟩), .pointer (some ⟨w.heap.size, 0, none⟩), .int .u64 150] 59)).alloc (.cells #[.pointer (some e)] 43)).setCell t (.pointer (some e)) := by
  have tO := typeOf43
  have tO2 := typeOf68
  have mA := methodAssignableTo
  have a43 := assignable43
  have a68 := assignable68
  have v43 := valueOf43
  have v48 := valueOf48
  have t48 := type48
  have mK := methodKind
  have mE := methodElem
  have mI := methodImplements
  have k48 := kind48
  have k43 := kind43
  have e48 := elem48
  have i43 := implements43
  have nA := noAs68
  have uW := hasUnwrap68
  have mU := methodUnwrap
  have n13 := isNil48 ⟨w.heap.size, 0, none⟩ t ((w.alloc (.cells #[.pointer (some t)] 48)).alloc (.cells #[.pointer (some ⟨1, 48, none⟩), .pointer (some ⟨w.heap.size, 0, none⟩), .int .u64 150] 59)) (by simp)
  have hlt : 0 < w.heap.size := World.block_lt_of_cell? _ _ hg
  have hpl : pb < w.heap.size := World.block_lt_of_cell? _ _ h1
  have htl : t.block < w.heap.size := World.block_lt_of_cell? _ _ ht0
  have hg2 : ((w.alloc (.cells #[.pointer (some t)] 48)).alloc (.cells #[.pointer (some ⟨1, 48, none⟩), .pointer (some ⟨w.heap.size, 0, none⟩), .int .u64 150] 59)).cell? ⟨0, 0, none⟩ = some (.iface 70 (.agg #[.pointer (some ⟨1, 32, none⟩)])) := by
    rw [World.cell?_alloc_lt _ _ ⟨0, 0, none⟩ (by simp), World.cell?_alloc_lt _ _ ⟨0, 0, none⟩ hlt]; exact hg
  have hU : (((w.alloc (.cells #[.pointer (some t)] 48)).alloc (.cells #[.pointer (some ⟨1, 48, none⟩), .pointer (some ⟨w.heap.size, 0, none⟩), .int .u64 150] 59)).alloc (.cells #[.pointer (some ⟨1, 48, none⟩), .pointer (some ⟨w.heap.size, 0, none⟩), .int .u64 150] 59)).cell? ⟨pb, 1, none⟩ = some (.iface 43 (.pointer (some e))) := by
    rw [World.cell?_alloc_lt _ _ ⟨pb, 1, none⟩ (by simp; omega), World.cell?_alloc_lt _ _ ⟨pb, 1, none⟩ (by simp; omega), World.cell?_alloc_lt _ _ ⟨pb, 1, none⟩ hpl]; exact h1
  have el := elemV48 ⟨w.heap.size, 0, none⟩ t (((w.alloc (.cells #[.pointer (some t)] 48)).alloc (.cells #[.pointer (some ⟨1, 48, none⟩), .pointer (some ⟨w.heap.size, 0, none⟩), .int .u64 150] 59)).alloc (.cells #[.pointer (some ⟨1, 48, none⟩), .pointer (some ⟨w.heap.size, 0, none⟩), .int .u64 150] 59)) (by rw [World.cell?_alloc_lt _ _ ⟨w.heap.size, 0, none⟩ (by simp; omega)]; simp)
  have st := set43 t ⟨w.heap.size + 1 + 1 + 1, 0, none⟩ e old ((((w.alloc (.cells #[.pointer (some t)] 48)).alloc (.cells #[.pointer (some ⟨1, 48, none⟩), .pointer (some ⟨w.heap.size, 0, none⟩), .int .u64 150] 59)).alloc (.cells #[.pointer (some ⟨1, 48, none⟩), .pointer (some ⟨w.heap.size, 0, none⟩), .int .u64 150] 59)).alloc (.cells #[.pointer (some e)] 43))
    (by rw [World.cell?_alloc_at _ _ _ _ (by simp)]; rfl)
    (by rw [World.cell?_alloc_lt _ _ t (by simp; omega), World.cell?_alloc_lt _ _ t (by simp; omega), World.cell?_alloc_lt _ _ t (by simp; omega), World.cell?_alloc_lt _ _ t htl]; exact ht0)
    (by rw [World.frozen?_alloc_old _ _ t (by simp; omega), World.frozen?_alloc_old _ _ t (by simp; omega), World.frozen?_alloc_old _ _ t (by simp; omega), World.frozen?_alloc_old _ _ t (Nat.ne_of_lt htl)]; exact hf0)
  go_enter Ybaf.func7, Ybaf.ntmps7
  go_wp2
  refine wp_loop_rounds 2 ?_
  rw [rounds_succ]
  go_wp2
  rw [rounds_succ]
  go_wp2
  go_ret
  exact ⟨rfl, rfl⟩
end Go.Proofs.YbulkwyaFmt
