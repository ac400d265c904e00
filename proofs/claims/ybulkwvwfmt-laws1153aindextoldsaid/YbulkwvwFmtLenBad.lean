import Derived.Test.YbulkwvwFmtLen
namespace Go.Proofs.YbulkwvwFmt
open Go.RowKit Go.Extern.Stop Go.Stop Go.Extern Go.Maps Go.WideMaps

set_option maxHeartbeats 1600000 in
/-- lenTarget at a name of the call whose argument is no buffer: its index and one fault. -/
theorem len_bad (rb fb mb : Nat) (arg file : ByteArray) (line col : Int) (ab n i : Nat) (hin : i < n) (_hn : n ≤ 1024) (w : World) (hab : ab < w.heap.size)
    (htn : w.cell? ⟨ab, i * 7 + 3, none⟩ = some (.string ⟨#[105, 110, 116, 51, 50]⟩))
    (hrb : w.cell? ⟨rb, 0, none⟩ = some (.pointer (some ⟨fb, 0, none⟩))) (hr : rb < w.heap.size) (B : Nat) (hB : B ≤ fb) (hBw : B ≤ w.heap.size)
    (hf : w.heap[fb]? = some (.cells #[.string file, .slice none 0 0] 42 (0, 0)))
    (hlook : ∀ w', w'.heap[mb]? = w.heap[mb]? → (Instr.lookup 36 (.map (some mb)) (.string arg) true).run Ybaf.prog w' = .ok (.tuple #[.int .i64 i, .bool true]) w') (hmb : mb < w.heap.size) :
    Calls Ybaf.prog 5 #[.pointer (some ⟨rb, 0, none⟩), .string arg, .agg #[.int .i64 line, .int .i64 col], .agg #[.int .i64 3, .string ⟨#[99, 97, 108, 108]⟩, .int .i64 0, .int .i64 0, .bool false, .string ⟨#[]⟩, .int .i64 0, .int .i64 0, .slice none 0 0, .slice (some ⟨ab, 0, none⟩) n n, .string ⟨#[]⟩, .int .i64 0, .int .i64 0], .map (some mb)] w
      fun e w' => e = .returned (.int .i64 i) ∧ Faulted w' fb file line col ∧ Below B w w' ∧ (∀ k, k < w.heap.size → k ≠ fb → w'.heap[k]? = w.heap[k]?) := by
  have hl2 : ∀ o1 o2, (Instr.lookup 36 (.map (some mb)) (.string arg) true).run Ybaf.prog ((w.alloc o1).alloc o2) = .ok (.tuple #[.int .i64 i, .bool true]) ((w.alloc o1).alloc o2) := fun o1 o2 =>
    hlook _ (by rw [Below.heap_alloc _ _ _ (by simp; omega), Below.heap_alloc _ _ _ hmb])
  have Hf : Hid (w.heap[fb]? = some (.cells #[.string file, .slice none 0 0] 42 (0, 0))) := hf
  have hr1 : rb < w.heap.size + 1 := by omega
  have hr2 : rb < w.heap.size + 1 + 1 := by omega
  have ha1 : ab < w.heap.size + 1 := by omega
  clear hlook hf
  go_enter Ybaf.func5, Ybaf.ntmps5
  go_wp2_with fail
  go_region_with (go_at_call 6; (refine (addAt_here _ fmt1 B fb file _ _ line col w _ _ hB hBw Hf.out).mono ?_; rintro e w1 ⟨rfl, hF1, hb1, hk1⟩))
  all_goals
    go_wp2
    go_ret
    exact ⟨rfl, hF1, hb1, hk1⟩
end Go.Proofs.YbulkwvwFmt
