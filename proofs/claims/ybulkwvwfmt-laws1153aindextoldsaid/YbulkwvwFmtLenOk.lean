import Derived.Test.YbulkwvwFmtLen
namespace Go.Proofs.YbulkwvwFmt
open Go.RowKit Go.Extern.Stop Go.Stop Go.Extern Go.Maps Go.WideMaps

set_option maxHeartbeats 1600000 in
/-- lenTarget at a name of the call whose argument is a buffer: its index, no fault. -/
theorem len_ok (rb mb : Nat) (arg : ByteArray) (line col : Int) (ab n i : Nat) (hin : i < n) (_hn : n ≤ 1024) (w : World) (hab : ab < w.heap.size)
    (htn : w.cell? ⟨ab, i * 7 + 3, none⟩ = some (.string ⟨#[98, 117, 102, 102, 101, 114]⟩))
    (hlook : ∀ w', w'.heap[mb]? = w.heap[mb]? → (Instr.lookup 36 (.map (some mb)) (.string arg) true).run Ybaf.prog w' = .ok (.tuple #[.int .i64 i, .bool true]) w') (hmb : mb < w.heap.size) :
    Calls Ybaf.prog 5 #[.pointer (some ⟨rb, 0, none⟩), .string arg, .agg #[.int .i64 line, .int .i64 col], .agg #[.int .i64 3, .string ⟨#[99, 97, 108, 108]⟩, .int .i64 0, .int .i64 0, .bool false, .string ⟨#[]⟩, .int .i64 0, .int .i64 0, .slice none 0 0, .slice (some ⟨ab, 0, none⟩) n n, .string ⟨#[]⟩, .int .i64 0, .int .i64 0], .map (some mb)] w
      fun e w' => e = .returned (.int .i64 i) ∧ Below w.heap.size w w' := by
  have hl2 : ∀ o1 o2, (Instr.lookup 36 (.map (some mb)) (.string arg) true).run Ybaf.prog ((w.alloc o1).alloc o2) = .ok (.tuple #[.int .i64 i, .bool true]) ((w.alloc o1).alloc o2) := fun o1 o2 =>
    hlook _ (by rw [Below.heap_alloc _ _ _ (by simp; omega), Below.heap_alloc _ _ _ hmb])
  have ha1 : ab < w.heap.size + 1 := by omega
  clear hlook
  go_enter Ybaf.func5, Ybaf.ntmps5
  go_wp2
  go_ret
  exact ⟨rfl, ((Below.refl _ w).alloc (Nat.le_refl _) _).alloc (by simp) _⟩
end Go.Proofs.YbulkwvwFmt
