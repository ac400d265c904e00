import Derived.Test.YbulkwyoRows
import Derived.WalkKit
import Derived.WalkSpells
import Derived.Below
import Derived.Deep.Strs
import Derived.Deep.QuietTactic
import Derived.BigQuiet
import Derived.LaidEqlPtr
namespace Go.Proofs.Ybulkwyo
open Go.RowKit

theorem Yba.info44 : (Yba.prog.info? 44).map (fun i => (i.zero, i.size, i.bytes)) = some (some (.pointer none), 1, 8) := by kernel_rfl

/-- n pointers in block 'g' that the call has made, those below k filled in. -/
def Made (w : World) (g n k : Nat) : Prop := ∃ cur : Array Value, w.heap[g]? = some (.cells cur 44 (0, 0)) ∧ cur.size = n ∧ ∀ j, j < k → ∃ q, cur[j]? = some (.pointer (some ⟨q, 0, none⟩))

theorem Made.at {w : World} {g n k : Nat} (h : Made w g n k) {j : Nat} (hj : j < k) : ∃ q, w.cell? ⟨g, j, none⟩ = some (.pointer (some ⟨q, 0, none⟩)) := by
  obtain ⟨cur, a, _, r⟩ := h
  rw [cell_of_row _ _ _ _ _ _ a]
  exact r j hj

theorem Made.later {w w' : World} {g n k : Nat} (h : Made w g n k) (hw : w'.heap[g]? = w.heap[g]?) : Made w' g n k := by
  obtain ⟨cur, a, r⟩ := h
  exact ⟨cur, hw.trans a, r⟩

theorem Made.lt {w : World} {g n k : Nat} (h : Made w g n k) : g < w.heap.size := by
  obtain ⟨cur, a, r⟩ := h
  exact (Array.getElem?_eq_some_iff.1 a).1

theorem Made.put {w : World} {g n k : Nat} (h : Made w g n k) (q : Nat) (hk : k < n) : Made (w.setCell ⟨g, k, none⟩ (.pointer (some ⟨q, 0, none⟩))) g n (k + 1) := by
  obtain ⟨cur, a, b, c⟩ := h
  refine ⟨_, heap_setCell_same _ _ k _ _ _ a, by simpa using b, fun j hj => ?_⟩
  simp only [Array.getElem?_setIfInBounds]
  by_cases e : k = j
  · subst e
    exact ⟨q, by rw [if_pos rfl, if_pos (by omega)]⟩
  · obtain ⟨p, hp⟩ := c j (by omega)
    exact ⟨p, by rw [if_neg e]; exact hp⟩

set_option maxHeartbeats 1600000 in
set_option maxRecDepth 100000 in
/-- THE MAKER: n new type parameters. -/
theorem make_any (w : World) (n : Nat) (hn : n ≤ 7) :
    Calls Yba.prog 4 #[.int .i64 n] w fun e w' => e = .returned (.slice (some ⟨w.heap.size, 0, none⟩) n n) ∧ Made w' w.heap.size n n ∧ Below w.heap.size w w' := by
  obtain ⟨i0, hi, hz0, hz1, hz2⟩ := info_parts Yba.info44
  go_enter Yba.func4, Yba.ntmps4
  go_wp2_with (at_make; refine wpList_make_full _ rfl _ _ 22 rfl w.heap.size 44 i0 _ 1 Yba.underlying22 hi hz0 hz1 _ _ _ _ n rfl rfl (by omega) (by omega) ?b2 ?b3 (Nat.le_refl _) ?_)
  case b2 => rw [hz2]; omega
  case b3 => unfold maxLen; omega
  intro w0 hown0 hgrow0
  have hrow0 : Made w0 w.heap.size n 0 := by
    rcases hown0.2 with ⟨h, _⟩ | ⟨g, cap, cur, h, _, hg, _, _, hcs, _⟩
    · simp at h
    · simp only [Value.slice.injEq, Option.some.injEq, Addr.mk.injEq, and_true, true_and] at h
      obtain ⟨rfl, rfl⟩ := h
      exact ⟨cur, hg, by simpa using hcs, by omega⟩
  have hnx0 : Below w.heap.size w w0 := (Below.refl _ _).grown hgrow0 (Nat.le_refl _) (fun k h => by cases h)
  clear hown0 hgrow0
  go_wp2
  go_loopw [4] (fun i wr => ∃ k : Nat, k ≤ n ∧ i = .int .i64 k ∧ Made wr w.heap.size n k ∧ Below w.heap.size w wr)
    (fun i _ => n - (intOf i).toNat)
  case atStart => exact ⟨0, Nat.zero_le _, rfl, hrow0, hnx0⟩
  case round =>
    obtain ⟨k, hkn, rfl, hrow, hnx⟩ := hrel
    by_cases hlt : k < n
    · obtain ⟨v0, f0⟩ : ∃ v, wr.cell? ⟨w.heap.size, k, none⟩ = some v := by
        obtain ⟨cur, a, b, _⟩ := hrow
        rw [cell_of_row _ _ _ _ _ _ a]
        exact ⟨cur[k]'(by omega), by rw [Array.getElem?_eq_getElem]⟩
      have hfz : wr.frozen? ⟨w.heap.size, k, none⟩ = false := by
        obtain ⟨cur, a, _⟩ := hrow
        exact frozen_of_row _ _ _ _ _ a
      have hl := hrow.lt
      have H : Hid (Made wr w.heap.size n k) := hrow
      clear hrow hrow0 hnx0
      go_wp2
      go_roundw
      case rel =>
        have hs := hnx.size
        refine ⟨k + 1, by omega, by go_num, (H.out.put (wr.heap.size + 1) hlt).later ?_, ((hnx.setCell (Nat.le_refl _) _).alloc (by simpa using hs) _).alloc (by simp; omega) _⟩
        rw [Below.heap_alloc _ _ _ (by simp; omega), Below.heap_alloc _ _ _ (by simpa using hl)]
      case measure => simp [intOf]; omega
    · obtain rfl : k = n := by omega
      go_wp2
      go_ret
      exact ⟨rfl, hrow, hnx⟩

/-- The declared parameters, where the object has a declaration. -/
theorem params_decl (w : World) (ob db : Nat) (s : Value) (h4 : w.cell? ⟨ob, 4, none⟩ = some (.pointer (some ⟨db, 0, none⟩))) (h5 : w.cell? ⟨db, 5, none⟩ = some s) :
    Calls Yba.prog 5 #[.pointer (some ⟨ob, 0, none⟩)] w fun e w' => e = .returned s ∧ w = w' := by
  go_enter Yba.func5, Yba.ntmps5
  go_wp2
  go_ret
  exact ⟨rfl, rfl⟩

/-- Its own, where it has none. -/
theorem params_own (w : World) (ob : Nat) (s : Value) (h4 : w.cell? ⟨ob, 4, none⟩ = some (.pointer none)) (h7 : w.cell? ⟨ob, 7, none⟩ = some s) :
    Calls Yba.prog 5 #[.pointer (some ⟨ob, 0, none⟩)] w fun e w' => e = .returned s ∧ w = w' := by
  go_enter Yba.func5, Yba.ntmps5
  go_wp2
  go_ret
  exact ⟨rfl, rfl⟩
end Go.Proofs.Ybulkwyo
