import Derived.Test.YbulkwvwFmtFacts
import Derived.WalkKit
import Derived.WalkSpells
import Derived.Deep.RegionWith
import Derived.Below
namespace Go.Proofs.YbulkwvwFmt
open Go.RowKit Go.Extern.Stop Go.Stop Go.Extern

theorem rows_sprintf (v : Nat) (s0 s1 : ByteArray) (f : ByteArray) (w : World) {R : Value → World → Prop} (h0 : w.cell? ⟨v, 0, none⟩ = some (.iface 9 (.string s0))) (h1 : w.cell? ⟨v, 1, none⟩ = some (.iface 9 (.string s1)))
    (h : ∀ s, R (.string s) w.drew) : Rows Ybaf.prog FmtCalls.turnsRow (FmtCalls.save 0 0 (.slice (some ⟨v, 0, none⟩) 2 2) f [] [(0, 115, false), (1, 115, false)]) w R := by
  apply rows_value nextTurns
  case hr =>
    go_simp
    exact ⟨rfl, rfl⟩
  case h => exact h _

theorem heap_two (w : World) (o1 o2 : Obj) : ((w.alloc o1).alloc o2).drew.drew.heap[w.heap.size + 1]? = some o2 := by
  have h := heap_alloc_new (w.alloc o1) o2
  rw [World.size_alloc] at h
  exact h

set_option maxHeartbeats 800000 in
/-- errorAt, at a format that asks for two strings: a new Error with that line and column. -/
theorem errorAt_any (f : ByteArray) (hf : FmtStop.printed? f 2 = some [(0, 115, false), (1, 115, false)]) (line col : Int) (v : Nat) (s0 s1 : ByteArray) (w : World) (hv : v < w.heap.size)
    (h0 : w.cell? ⟨v, 0, none⟩ = some (.iface 9 (.string s0))) (h1 : w.cell? ⟨v, 1, none⟩ = some (.iface 9 (.string s1))) :
    Calls Ybaf.prog 8 #[.agg #[.int .i64 line, .int .i64 col], .string f, .slice (some ⟨v, 0, none⟩) 2 2] w fun e w' => ∃ E msg, e = .returned (.pointer (some ⟨E, 0, none⟩)) ∧ w.heap.size ≤ E ∧
      w'.heap[E]? = some (.cells #[.string ⟨#[]⟩, .int .i64 line, .int .i64 col, .string msg] 53 (0, 0)) ∧ Below w.heap.size w w' := by
  go_enter Ybaf.func8, Ybaf.ntmps8
  go_wp2
  go_region_with (refine rows_sprintf v s0 s1 _ _ (by rw [World.cell?_drew, World.cell?_alloc_lt _ _ _ (by exact hv)]; exact h0) (by rw [World.cell?_drew, World.cell?_alloc_lt _ _ _ (by exact hv)]; exact h1) ?_; intro msg)
  all_goals
    go_wp2
    go_ret
    exact ⟨w.heap.size + 1, msg, rfl, by omega, heap_two _ _ _, ((((Below.refl _ w).alloc (Nat.le_refl _) _).drew.drew).alloc (by simp) _)⟩
end Go.Proofs.YbulkwvwFmt
