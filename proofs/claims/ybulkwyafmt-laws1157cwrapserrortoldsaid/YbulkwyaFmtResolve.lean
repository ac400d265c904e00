import Derived.Test.YbulkwyaFmtRows
import Derived.WalkKit
import Derived.WalkSpells
import Derived.Below
import Derived.Deep.QuietTactic
import Derived.BigQuiet
namespace Go.Proofs.YbulkwyaFmt
open Go.RowKit

/-- The stand-in document's resolve: it counts, it keeps the path, it answers. -/
theorem zz_nil (zb ab n : Nat) (path got : ByteArray) (w : World) (hz : w.heap[zb]? = some (.cells #[.slice (some ⟨ab, 0, none⟩) n n, .nilIface, .int .i64 0, .string got] 34 (0, 0))) :
    Calls Ybaf.prog 38 #[.pointer (some ⟨zb, 0, none⟩), .string path] w fun e w' => e = .returned (.tuple #[.slice (some ⟨ab, 0, none⟩) n n, .nilIface]) ∧ ∃ nq, w' = ((w.setCell ⟨zb, 2, none⟩ (.int .i64 1)).setCell ⟨zb, 3, none⟩ (.string path)).drewN nq := by
  have c0 : w.cell? ⟨zb, 0, none⟩ = some (.slice (some ⟨ab, 0, none⟩) n n) := by rw [cell_of_row _ _ _ _ _ _ hz]; rfl
  have c1 : w.cell? ⟨zb, 1, none⟩ = some .nilIface := by rw [cell_of_row _ _ _ _ _ _ hz]; rfl
  have c2 : w.cell? ⟨zb, 2, none⟩ = some (.int .i64 0) := by rw [cell_of_row _ _ _ _ _ _ hz]; rfl
  have c3 : w.cell? ⟨zb, 3, none⟩ = some (.string got) := by rw [cell_of_row _ _ _ _ _ _ hz]; rfl
  have f2 := frozen_of_row _ zb 2 _ _ hz
  have f3 := frozen_of_row _ zb 3 _ _ hz
  clear hz
  go_enter Ybaf.func38, Ybaf.ntmps38
  go_wp2
  go_quiet (fail)
  go_wp2
  go_ret2
  exact ⟨rfl, nq, rfl⟩

/-- A call whose callee is found by evaluation (a method called through an interface value whose dynamic type is known). -/
theorem upon_enter {P : Program} {o : Oper} {a : Act} {next : Act → World → Prop} {Q : Exit → Act → World → Prop} {r : Result Next} (f : FuncId) (args : Array Value) (w : World) (h : r = .ok (.enter f args) w)
    (hc : Calls P f args w fun
      | .returned v, w'' => next (a.put o.dst v) w''
      | .panicked chain, w'' => Q (.panic chain) a w''
      | .outgrown, _ => LetsOut Q) : Oper.upon P o a next Q r := by
  subst h
  exact hc

/-- What a resolve leaves: the document's own block has counted and kept the path; all else is as it was. -/
structure Asked (w w' : World) (zb : Nat) (ans err : Value) (path : ByteArray) : Prop where
  doc : w'.heap[zb]? = some (.cells #[ans, err, .int .i64 1, .string path] 34 (0, 0))
  rest : ∀ k, k ≠ zb → w'.heap[k]? = w.heap[k]?
  size : w'.heap.size = w.heap.size
  os : w'.os = w.os
  tape : w'.tape = w.tape
  output : w'.output = w.output

theorem asked_mk {w : World} {zb : Nat} {ans err : Value} {path got : ByteArray} (hz : w.heap[zb]? = some (.cells #[ans, err, .int .i64 0, .string got] 34 (0, 0))) (nq : Nat) :
    Asked w (((w.setCell ⟨zb, 2, none⟩ (.int .i64 1)).setCell ⟨zb, 3, none⟩ (.string path)).drewN nq) zb ans err path := by
  have h1 := heap_setCell_same _ _ 2 _ _ (.int .i64 1) hz
  have h2 := heap_setCell_same _ _ 3 _ _ (.string path) h1
  refine ⟨h2, fun k hk => ?_, ?_, rfl, rfl, rfl⟩
  · show ((w.setCell ⟨zb, 2, none⟩ (.int .i64 1)).setCell ⟨zb, 3, none⟩ (.string path)).heap[k]? = _
    rw [Below.heap_setCell _ _ _ _ (by exact hk), Below.heap_setCell _ _ _ _ (by exact hk)]
  · show ((w.setCell ⟨zb, 2, none⟩ (.int .i64 1)).setCell ⟨zb, 3, none⟩ (.string path)).heap.size = _
    simp [World.setCell]

theorem Asked.below {w w' : World} {zb : Nat} {ans err : Value} {path : ByteArray} (h : Asked w w' zb ans err path) {B : Nat} (hB : B ≤ zb) : Below B w w' :=
  ⟨h.os, h.tape, h.output, by rw [h.size]; exact Nat.le_refl _, fun k hk => h.rest k (by omega)⟩

set_option maxRecDepth 100000 in
/-- Resolve over the stand-in, no error. -/
theorem resolve_nil (db zb ab n : Nat) (name path got : ByteArray) (w : World) (hd : w.heap[db]? = some (.cells #[.string name, .iface 30 (.pointer (some ⟨zb, 0, none⟩))] 39 (0, 0))) (hz : w.heap[zb]? = some (.cells #[.slice (some ⟨ab, 0, none⟩) n n, .nilIface, .int .i64 0, .string got] 34 (0, 0))) :
    Calls Ybaf.prog 5 #[.pointer (some ⟨db, 0, none⟩), .string path] w fun e w' => e = .returned (.tuple #[.slice (some ⟨ab, 0, none⟩) n n, .nilIface]) ∧ Asked w w' zb (.slice (some ⟨ab, 0, none⟩) n n) .nilIface path := by
  have c0 : w.cell? ⟨db, 1, none⟩ = some (.iface 30 (.pointer (some ⟨zb, 0, none⟩))) := by rw [cell_of_row _ _ _ _ _ _ hd]; rfl
  have Hz : Hid _ := hz
  clear hd hz
  go_enter Ybaf.func5, Ybaf.ntmps5
  go_wp2_with fail
  refine upon_enter 38 #[.pointer (some ⟨zb, 0, none⟩), .string path] w (by kernel_rfl) ?_
  refine (zz_nil zb ab n path got w Hz.out).mono ?_
  rintro e w' ⟨rfl, nq, hw⟩
  have hA : Asked w w' zb (.slice (some ⟨ab, 0, none⟩) n n) .nilIface path := by rw [hw]; exact asked_mk Hz.out nq
  clear hw
  go_wp2
  go_ret2
  exact ⟨rfl, hA⟩
end Go.Proofs.YbulkwyaFmt
