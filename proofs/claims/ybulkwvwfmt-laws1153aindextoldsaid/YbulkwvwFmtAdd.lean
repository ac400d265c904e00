import Derived.Test.YbulkwvwFmtErr
namespace Go.Proofs.YbulkwvwFmt
open Go.RowKit Go.Extern.Stop Go.Stop Go.Extern

theorem Ybaf.info51 : (Ybaf.prog.info? 51).map (fun i => (i.zero, i.size, i.bytes)) = some (some (.pointer none), 1, 8) := by kernel_rfl

/-- What the faults hold behind 'add': one fault, the block E, its file set. -/
def Faulted (w : World) (fb : Nat) (file : ByteArray) (line col : Int) : Prop :=
  ∃ (g cap E : Nat) (msg : ByteArray), w.cell? ⟨fb, 1, none⟩ = some (.slice (some ⟨g, 0, none⟩) 1 cap) ∧ w.cell? ⟨g, 0, none⟩ = some (.pointer (some ⟨E, 0, none⟩)) ∧
    w.cell? ⟨E, 0, none⟩ = some (.string file) ∧ w.cell? ⟨E, 1, none⟩ = some (.int .i64 line) ∧ w.cell? ⟨E, 2, none⟩ = some (.int .i64 col) ∧ w.cell? ⟨E, 3, none⟩ = some (.string msg)

set_option maxHeartbeats 800000 in
/-- (*faults).add on an empty list. -/
theorem add_any (B : Nat) (fb E : Nat) (file msg : ByteArray) (line col : Int) (w : World) (hne : fb ≠ E) (hB : B ≤ fb) (hBE : B ≤ E)
    (hf : w.heap[fb]? = some (.cells #[.string file, .slice none 0 0] 42 (0, 0))) (hE : w.heap[E]? = some (.cells #[.string ⟨#[]⟩, .int .i64 line, .int .i64 col, .string msg] 53 (0, 0))) :
    Calls Ybaf.prog 7 #[.pointer (some ⟨fb, 0, none⟩), .pointer (some ⟨E, 0, none⟩)] w fun e w' => e = .returned (.tuple #[]) ∧ Faulted w' fb file line col ∧ Below B w w' ∧ (∀ k, k < w.heap.size → k ≠ fb → k ≠ E → w'.heap[k]? = w.heap[k]?) := by
  obtain ⟨i0, hi, hz0, hz1, hz2⟩ := info_parts Ybaf.info51
  have hf0 : w.cell? ⟨fb, 0, none⟩ = some (.string file) := by rw [cell_of_row _ _ _ _ _ _ hf]; rfl
  have hf1 : w.cell? ⟨fb, 1, none⟩ = some (.slice none 0 0) := by rw [cell_of_row _ _ _ _ _ _ hf]; rfl
  have hff := frozen_of_row _ fb 1 _ _ hf
  have hE0 : w.cell? ⟨E, 0, none⟩ = some (.string ⟨#[]⟩) := by rw [cell_of_row _ _ _ _ _ _ hE]; rfl
  have hEf := frozen_of_row _ E 0 _ _ hE
  have Hf : Hid (w.heap[fb]? = some (.cells #[.string file, .slice none 0 0] 42 (0, 0))) := hf
  have HE : Hid (w.heap[E]? = some (.cells #[.string ⟨#[]⟩, .int .i64 line, .int .i64 col, .string msg] 53 (0, 0))) := hE
  clear hf hE
  go_enter Ybaf.func7, Ybaf.ntmps7
  have hbf : fb < w.heap.size := (Array.getElem?_eq_some_iff.1 Hf.out).1
  have hbE : E < w.heap.size := (Array.getElem?_eq_some_iff.1 HE.out).1
  go_wp2_with (at_builtin; refine wpList_append_own _ rfl (.tmp 15) (.tmp 17) 40 rfl (w.heap.size + 1) 51 i0 (.pointer none) 1 8 Ybaf.underlying40 hi hz0 hz1 hz2 rfl (by decide) _ _ _ rfl (World.ownsRow_nil _ _ _ _) ⟨w.heap.size, 0, none⟩ 1 1 [.pointer (some ⟨E, 0, none⟩)] rfl rfl ?c1 ?c2 ?c3 ?c4 ?c5 ?_)
  case c1 =>
    intro t u ht
    match t, ht with
    | 0, ht => simp at ht; subst ht; rw [Addr.add_lit, World.cell?_alloc_at _ _ _ _ (by simp [World.setCell])]; rfl
  case c2 => intro u hu; simp at hu; subst hu; rfl
  case c3 => unfold maxLen; omega
  case c4 => omega
  case c5 => simp [World.setCell]
  intro v' w1 hown hgrow _
  have hk1 : ∀ k, k < w.heap.size → w1.heap[k]? = (w.setCell ⟨E, 0, none⟩ (.string file)).heap[k]? := fun k hk => by
    rw [hgrow.block k (by simp [World.setCell]; omega) (by simp [Value.ownBlock]), Below.heap_alloc _ _ _ (by simp [World.setCell]; omega)]
  have hsz : w.heap.size + 1 ≤ w1.heap.size := by have := hgrow.size; simp [World.setCell] at this; omega
  obtain ⟨g, cap, hv, hgb⟩ : ∃ g cap, v' = .slice (some ⟨g, 0, none⟩) 1 cap ∧ w.heap.size + 1 ≤ g := by
    rcases hown.2 with ⟨_, h⟩ | ⟨g, cap, cur, hv, hb, _⟩
    · omega
    · exact ⟨g, cap, by simpa using hv, hb⟩
  have hg0 : w1.cell? ⟨g, 0, none⟩ = some (.pointer (some ⟨E, 0, none⟩)) := by
    rw [hv] at hown
    rw [hown.cellAt 0 (by omega)]; rfl
  have hfb : w1.heap[fb]? = some (.cells #[.string file, .slice none 0 0] 42 (0, 0)) := by rw [hk1 fb hbf, Below.heap_setCell _ _ _ _ (by exact hne)]; exact Hf.out
  have hEb : w1.heap[E]? = some (.cells #[.string file, .int .i64 line, .int .i64 col, .string msg] 53 (0, 0)) := by
    rw [hk1 E hbE, heap_setCell_same _ _ _ _ _ _ HE.out]; rfl
  have hc1 : w1.cell? ⟨fb, 1, none⟩ = some (.slice none 0 0) := by rw [cell_of_row _ _ _ _ _ _ hfb]; rfl
  have hcf := frozen_of_row _ fb 1 _ _ hfb
  have hbel : Below B w w1 := (((Below.refl B w).setCell (by exact hBE) _).alloc (by simp [World.setCell]; omega) _).grown hgrow (by simp [World.setCell]; omega) (fun k hk => by simp [Value.ownBlock] at hk)
  have FIN : Faulted (w1.setCell ⟨fb, 1, none⟩ (.slice (some ⟨g, 0, none⟩) 1 cap)) fb file line col ∧ Below B w (w1.setCell ⟨fb, 1, none⟩ (.slice (some ⟨g, 0, none⟩) 1 cap)) ∧ (∀ k, k < w.heap.size → k ≠ fb → k ≠ E → (w1.setCell ⟨fb, 1, none⟩ (.slice (some ⟨g, 0, none⟩) 1 cap)).heap[k]? = w.heap[k]?) := by
    refine ⟨⟨g, cap, E, msg, World.cell?_setCell_same _ _ _ hc1, ?_, ?_, ?_, ?_, ?_⟩, hbel.setCell (by exact hB) _, fun k hk h1 h2 => ?_⟩
    · rw [World.cell?_of_block (w := w1) (Below.heap_setCell _ _ _ _ (by show g ≠ fb; omega))]; exact hg0
    · rw [World.cell?_of_block (w := w1) (Below.heap_setCell _ _ _ _ (by show E ≠ fb; omega)), cell_of_row _ _ _ _ _ _ hEb]; rfl
    · rw [World.cell?_of_block (w := w1) (Below.heap_setCell _ _ _ _ (by show E ≠ fb; omega)), cell_of_row _ _ _ _ _ _ hEb]; rfl
    · rw [World.cell?_of_block (w := w1) (Below.heap_setCell _ _ _ _ (by show E ≠ fb; omega)), cell_of_row _ _ _ _ _ _ hEb]; rfl
    · rw [World.cell?_of_block (w := w1) (Below.heap_setCell _ _ _ _ (by show E ≠ fb; omega)), cell_of_row _ _ _ _ _ _ hEb]; rfl
    · rw [Below.heap_setCell _ _ _ _ (by exact h1), hk1 k hk, Below.heap_setCell _ _ _ _ (by exact h2)]
  clear hown hgrow hk1 hfb hEb hbel
  rw [hv]
  clear hv
  go_wp2
  go_end0
  exact ⟨rfl, FIN⟩

set_option maxHeartbeats 800000 in
/-- (*faults).addAt on an empty list. -/
theorem addAt_any (f : ByteArray) (hpf : FmtStop.printed? f 2 = some [(0, 115, false), (1, 115, false)]) (B : Nat) (fb v : Nat) (file s0 s1 : ByteArray) (line col : Int) (w : World) (hB : B ≤ fb) (hBw : B ≤ w.heap.size) (hvw : v < w.heap.size)
    (hf : w.heap[fb]? = some (.cells #[.string file, .slice none 0 0] 42 (0, 0))) (h0 : w.cell? ⟨v, 0, none⟩ = some (.iface 9 (.string s0))) (h1 : w.cell? ⟨v, 1, none⟩ = some (.iface 9 (.string s1))) :
    Calls Ybaf.prog 6 #[.pointer (some ⟨fb, 0, none⟩), .agg #[.int .i64 line, .int .i64 col], .string f, .slice (some ⟨v, 0, none⟩) 2 2] w fun e w' => e = .returned (.tuple #[]) ∧ Faulted w' fb file line col ∧ Below B w w' ∧ (∀ k, k < w.heap.size → k ≠ fb → w'.heap[k]? = w.heap[k]?) := by
  have hbf : fb < w.heap.size := (Array.getElem?_eq_some_iff.1 hf).1
  have Hf : Hid (w.heap[fb]? = some (.cells #[.string file, .slice none 0 0] 42 (0, 0))) := hf
  have Hpf : Hid (FmtStop.printed? f 2 = some [(0, 115, false), (1, 115, false)]) := hpf
  clear hf hpf
  go_enter Ybaf.func6, Ybaf.ntmps6
  go_wp2_with fail
  refine (errorAt_any f Hpf.out line col v s0 s1 _ (by simp; omega) (by rw [World.cell?_alloc_lt _ _ _ (by exact hvw)]; exact h0) (by rw [World.cell?_alloc_lt _ _ _ (by exact hvw)]; exact h1)).mono ?_
  rintro e w1 ⟨E, msg, rfl, hE, hE1, hb1⟩
  simp only [World.size_alloc] at hE
  have HE : Hid _ := hE1
  clear hE1
  have hf1 : w1.heap[fb]? = some (.cells #[.string file, .slice none 0 0] 42 (0, 0)) := by
    rw [hb1.block fb (by simp; omega), Below.heap_alloc _ _ _ hbf]; exact Hf.out
  have Hf1 : Hid _ := hf1
  clear hf1
  go_wp2_with fail
  refine (add_any B fb E file msg line col w1 (by omega) hB (by omega) Hf1.out HE.out).mono ?_
  rintro e w2 ⟨rfl, hF2, hb2, hk2⟩
  go_wp2
  go_end0
  refine ⟨rfl, hF2, (((Below.refl B w).alloc hBw _).trans (hb1.mono (by simp; omega))).trans hb2, fun k hk hne => ?_⟩
  have := hb1.size
  simp only [World.size_alloc] at this
  rw [hk2 k (by omega) hne (by omega), hb1.block k (by simp; omega), Below.heap_alloc _ _ _ hk]
end Go.Proofs.YbulkwvwFmt
