import Derived.Test.YbulkwyaFmtResolve
namespace Go.Proofs.YbulkwyaFmt
open Go.RowKit

theorem Ybaf.info29 : (Ybaf.prog.info? 29).map (fun i => (i.zero, i.size, i.bytes)) = some (some (.agg #[.string ⟨#[]⟩, .string ⟨#[]⟩, .string ⟨#[]⟩, .nilIface, .nilIface]), 5, 80) := by kernel_rfl

/-- The matches: n of them, those below k filled in. -/
structure Ans (w : World) (ab n k : Nat) (Px Kx Nx : Nat → ByteArray) : Prop where
  row : ∃ cur : Array Value, w.heap[ab]? = some (.cells cur 29 (0, 0)) ∧ cur.size = n * 5 ∧ ∀ j, j < k → cur[j * 5]? = some (.string (Px j)) ∧ cur[j * 5 + 1]? = some (.string (Kx j)) ∧ cur[j * 5 + 2]? = some (.string (Nx j))

/-- What the walks are told of the items that came in. -/
def IsItems (w : World) (b off n : Nat) (Px Kx Nx : Nat → ByteArray) : Prop :=
  b < w.heap.size ∧ ∀ i, i < n → w.cell? ⟨b, off + i * 3, none⟩ = some (.string (Px i)) ∧ w.cell? ⟨b, off + i * 3 + 1, none⟩ = some (.string (Kx i)) ∧ w.cell? ⟨b, off + i * 3 + 2, none⟩ = some (.string (Nx i))

theorem ans_step {wr : World} {ab n k : Nat} {Px Kx Nx : Nat → ByteArray} {cur : Array Value} (hcur : wr.heap[ab]? = some (.cells cur 29 (0, 0))) (hcs : cur.size = n * 5) (hct : ∀ j, j < k → cur[j * 5]? = some (.string (Px j)) ∧ cur[j * 5 + 1]? = some (.string (Kx j)) ∧ cur[j * 5 + 2]? = some (.string (Nx j))) (hk : k < n) :
    Ans (((wr.setCell ⟨ab, k * 5, none⟩ (.string (Px k))).setCell ⟨ab, k * 5 + 1, none⟩ (.string (Kx k))).setCell ⟨ab, k * 5 + 2, none⟩ (.string (Nx k))) ab n (k + 1) Px Kx Nx := by
  have h0 := heap_setCell_same _ _ (k * 5) _ _ (.string (Px k)) hcur
  have h1 := heap_setCell_same _ _ (k * 5 + 1) _ _ (.string (Kx k)) h0
  have h2 := heap_setCell_same _ _ (k * 5 + 2) _ _ (.string (Nx k)) h1
  refine ⟨_, h2, by simpa using hcs, fun j hj => ?_⟩
  simp only [Array.getElem?_setIfInBounds, Array.size_setIfInBounds]
  by_cases e : j = k
  · subst e
    refine ⟨?_, ?_, ?_⟩
    · rw [if_neg (by omega), if_neg (by omega), if_pos rfl, if_pos (by omega)]
    · rw [if_neg (by omega), if_pos rfl, if_pos (by omega)]
    · rw [if_pos rfl, if_pos (by omega)]
  · obtain ⟨x0, x1, x2⟩ := hct j (by omega)
    refine ⟨?_, ?_, ?_⟩
    · rw [if_neg (by omega), if_neg (by omega), if_neg (by omega)]; exact x0
    · rw [if_neg (by omega), if_neg (by omega), if_neg (by omega)]; exact x1
    · rw [if_neg (by omega), if_neg (by omega), if_neg (by omega)]; exact x2

theorem Ans.later {w w' : World} {ab n k : Nat} {Px Kx Nx : Nat → ByteArray} (h : Ans w ab n k Px Kx Nx) (hw : w'.heap[ab]? = w.heap[ab]?) : Ans w' ab n k Px Kx Nx := by
  obtain ⟨cur, a, r⟩ := h.row
  exact ⟨cur, hw.trans a, r⟩

theorem Ans.lt {w : World} {ab n k : Nat} {Px Kx Nx : Nat → ByteArray} (h : Ans w ab n k Px Kx Nx) : ab < w.heap.size := by
  obtain ⟨cur, a, r⟩ := h.row
  exact (Array.getElem?_eq_some_iff.1 a).1

theorem Ans.at {w : World} {ab n k : Nat} {Px Kx Nx : Nat → ByteArray} (h : Ans w ab n k Px Kx Nx) {j : Nat} (hj : j < k) : w.cell? ⟨ab, j * 5, none⟩ = some (.string (Px j)) ∧ w.cell? ⟨ab, j * 5 + 1, none⟩ = some (.string (Kx j)) ∧ w.cell? ⟨ab, j * 5 + 2, none⟩ = some (.string (Nx j)) := by
  obtain ⟨cur, a, _, r⟩ := h.row
  rw [cell_of_row _ _ _ _ _ _ a, cell_of_row _ _ _ _ _ _ a, cell_of_row _ _ _ _ _ _ a]
  exact r j hj

theorem two_first (w : World) (o1 o2 : Obj) : ((w.alloc o1).alloc o2).heap[w.heap.size]? = some o1 := by
  rw [Below.heap_alloc _ _ _ (by simp)]
  exact heap_alloc_new _ _
theorem two_second (w : World) (o1 o2 : Obj) : ((w.alloc o1).alloc o2).heap[w.heap.size + 1]? = some o2 := by
  have h := heap_alloc_new (w.alloc o1) o2
  rw [World.size_alloc] at h
  exact h
theorem two_old (w : World) (o1 o2 : Obj) (k : Nat) (hk : k < w.heap.size) : ((w.alloc o1).alloc o2).heap[k]? = w.heap[k]? := by
  rw [Below.heap_alloc _ _ _ (by simp; omega), Below.heap_alloc _ _ _ hk]

set_option maxHeartbeats 1600000 in
set_option maxRecDepth 100000 in
theorem pass_some (w : World) (b off n c : Nat) (Px Kx Nx : Nat → ByteArray) (hn : n ≤ 1024) (hit : IsItems w b off n Px Kx Nx) (name path : ByteArray) :
    Calls Ybaf.prog 3 #[.string name, .string path, .slice (some ⟨b, off, none⟩) n c] w fun e w' => e = .returned (.bool true) ∧ Below w.heap.size w w' := by
  obtain ⟨hb, hc⟩ := hit
  obtain ⟨i0, hi, hz0, hz1, hz2⟩ := info_parts Ybaf.info29
  go_enter Ybaf.func3, Ybaf.ntmps3
  go_wp2_with (at_make; refine wpList_make_full _ rfl _ _ 23 rfl w.heap.size 29 i0 _ 5 Ybaf.underlying23 hi hz0 hz1 _ _ _ _ n rfl rfl (by omega) (by omega) ?b2 ?b3 (Nat.le_refl _) ?_)
  case b2 => rw [hz2]; omega
  case b3 => unfold maxLen; omega
  intro w0 hown0 hgrow0
  have hrow0 : Ans w0 w.heap.size n 0 Px Kx Nx := by
    rcases hown0.2 with ⟨h, _⟩ | ⟨g, cap, cur, h, _, hg, _, _, hcs, _⟩
    · simp at h
    · simp only [Value.slice.injEq, Option.some.injEq, Addr.mk.injEq, and_true, true_and] at h
      obtain ⟨rfl, rfl⟩ := h
      exact ⟨cur, hg, hcs, by omega⟩
  have hnx0 : Below w.heap.size w w0 := (Below.refl _ _).grown hgrow0 (Nat.le_refl _) (fun k h => by cases h)
  clear hown0 hgrow0
  go_wp2
  go_loopw [8] (fun i wr => ∃ k : Nat, k ≤ n ∧ i = .int .i64 k ∧ Ans wr w.heap.size n k Px Kx Nx ∧ Below w.heap.size w wr)
    (fun i _ => n - (intOf i).toNat)
  case atStart => exact ⟨0, Nat.zero_le _, rfl, hrow0, hnx0⟩
  case round =>
    obtain ⟨k, hkn, rfl, hrow, hnx⟩ := hrel
    by_cases hlt : k < n
    · obtain ⟨cur, hcur, hcs, hct⟩ := hrow.row
      have hx0 : wr.cell? ⟨b, off + k * 3, none⟩ = some (.string (Px k)) := (hnx.cell (by exact hb)).trans (hc k hlt).1
      have hx1 : wr.cell? ⟨b, off + k * 3 + 1, none⟩ = some (.string (Kx k)) := (hnx.cell (by exact hb)).trans (hc k hlt).2.1
      have hx2 : wr.cell? ⟨b, off + k * 3 + 2, none⟩ = some (.string (Nx k)) := (hnx.cell (by exact hb)).trans (hc k hlt).2.2
      obtain ⟨v0, v1, v2, f0, f1, f2⟩ : ∃ v0 v1 v2, wr.cell? ⟨w.heap.size, k * 5, none⟩ = some v0 ∧ wr.cell? ⟨w.heap.size, k * 5 + 1, none⟩ = some v1 ∧ wr.cell? ⟨w.heap.size, k * 5 + 2, none⟩ = some v2 := by
        have hx : ∀ m, m < 5 → ∃ v, wr.cell? ⟨w.heap.size, k * 5 + m, none⟩ = some v := fun m hm => by
          rw [cell_of_row _ _ _ _ _ _ hcur]
          exact ⟨cur[k * 5 + m]'(by omega), by rw [Array.getElem?_eq_getElem]⟩
        obtain ⟨v0, f0⟩ := hx 0 (by omega)
        obtain ⟨v1, f1⟩ := hx 1 (by omega)
        obtain ⟨v2, f2⟩ := hx 2 (by omega)
        exact ⟨v0, v1, v2, f0, f1, f2⟩
      have hfz : ∀ j, wr.frozen? ⟨w.heap.size, j, none⟩ = false := fun j => frozen_of_row _ _ _ _ _ hcur
      have hbne : b ≠ w.heap.size := by omega
      have Hcur : Hid (wr.heap[w.heap.size]? = some (.cells cur 29 (0, 0))) := hcur
      clear hcur hrow hrow0 hnx0
      go_wp2
      go_roundw
      case rel => exact ⟨k + 1, by omega, by go_num, ans_step Hcur.out hcs hct hlt, ((hnx.setCell (Nat.le_refl _) _).setCell (Nat.le_refl _) _).setCell (Nat.le_refl _) _⟩
      case measure => simp [intOf]; omega
    · obtain rfl : k = n := by omega
      obtain ⟨wa, hwa⟩ : ∃ wa, wa = wr := ⟨_, rfl⟩
      subst hwa
      have Hrow : Hid (Ans wa w.heap.size k k Px Kx Nx) := hrow
      clear hrow hrow0 hnx0
      go_wp2_with fail
      refine (resolve_nil (wa.heap.size + 1) wa.heap.size w.heap.size k name path ⟨#[]⟩ _ (two_second _ _ _) (two_first _ _ _)).mono ?_
      rintro e w5 ⟨rfl, hA⟩
      have hws := hnx.size
      have hbel : Below w.heap.size w w5 := ((hnx.alloc hnx.size _).alloc (by simp; omega) _).trans (hA.below hws)
      have Hans : Hid (Ans w5 w.heap.size k k Px Kx Nx) := Hrow.out.later (by rw [hA.rest _ (by have := Hrow.out.lt; omega), two_old _ _ _ _ Hrow.out.lt])
      have d2 : w5.cell? ⟨wa.heap.size, 2, none⟩ = some (.int .i64 1) := by rw [cell_of_row _ _ _ _ _ _ hA.doc]; rfl
      have d3 : w5.cell? ⟨wa.heap.size, 3, none⟩ = some (.string path) := by rw [cell_of_row _ _ _ _ _ _ hA.doc]; rfl
      clear hA Hrow hnx
      go_wp2
      go_loopw [13] (fun i wr => ∃ j : Nat, j ≤ k ∧ i = .int .i64 j ∧ wr.heap = w5.heap ∧ Below w.heap.size w wr) (fun i _ => k - (intOf i).toNat)
      case atStart => exact ⟨0, Nat.zero_le _, rfl, rfl, hbel⟩
      case round =>
        obtain ⟨j, hj, rfl, hheap, hbr⟩ := hrel
        by_cases hlt2 : j < k
        · have hA2 : Ans wr w.heap.size k k Px Kx Nx := Hans.out.later (by rw [hheap])
          obtain ⟨r0, r1, r2⟩ := hA2.at hlt2
          have hx0 : wr.cell? ⟨b, off + j * 3, none⟩ = some (.string (Px j)) := (hbr.cell (by exact hb)).trans (hc j hlt2).1
          have hx1 : wr.cell? ⟨b, off + j * 3 + 1, none⟩ = some (.string (Kx j)) := (hbr.cell (by exact hb)).trans (hc j hlt2).2.1
          have hx2 : wr.cell? ⟨b, off + j * 3 + 2, none⟩ = some (.string (Nx j)) := (hbr.cell (by exact hb)).trans (hc j hlt2).2.2
          have hb2 : (j : Int) < (k : Int) := by omega
          have HH : Hid (wr.heap = w5.heap) := hheap
          clear hA2 hheap
          go_wp2
          go_quiet (fail)
          go_wp2
          go_roundw
          case rel => exact ⟨j + 1, by omega, by go_num, HH.out, hbr.trans ⟨rfl, rfl, rfl, Nat.le_refl _, fun _ _ => rfl⟩⟩
          case measure => simp [intOf]; omega
        · go_wp2
          go_ret
          exact ⟨rfl, hbr⟩

set_option maxRecDepth 100000 in
theorem pass_long (w : World) (ao : Option Addr) (n c : Nat) (hm : n ≤ maxLen) (hn : ¬ n ≤ 1024) (name path : ByteArray) :
    Calls Ybaf.prog 3 #[.string name, .string path, .slice ao n c] w fun e w' => e = .returned (.bool true) ∧ Below w.heap.size w w' := by
  unfold maxLen at hm
  have h : (1024 : Int) < (n : Int) := by omega
  go_enter Ybaf.func3, Ybaf.ntmps3
  go_wp2
  go_ret
  exact ⟨rfl, Below.refl _ _⟩

set_option maxHeartbeats 1600000 in
set_option maxRecDepth 100000 in
theorem pass_none (w : World) (ao : Option Addr) (c : Nat) (name path : ByteArray) :
    Calls Ybaf.prog 3 #[.string name, .string path, .slice ao 0 c] w fun e w' => e = .returned (.bool true) ∧ Below w.heap.size w w' := by
  obtain ⟨i0, hi, hz0, hz1, hz2⟩ := info_parts Ybaf.info29
  go_enter Ybaf.func3, Ybaf.ntmps3
  go_wp2_with (at_make; refine wpList_make_full _ rfl _ _ 23 rfl w.heap.size 29 i0 _ 5 Ybaf.underlying23 hi hz0 hz1 _ _ _ _ 0 rfl rfl (by omega) (by omega) (by omega) (by unfold maxLen; omega) (Nat.le_refl _) ?_)
  intro wa hown0 hgrow0
  have hnx : Below w.heap.size w wa := (Below.refl _ _).grown hgrow0 (Nat.le_refl _) (fun k h => by cases h)
  clear hown0 hgrow0
  go_wp2
  refine wp_loop_rounds 1 ?_
  rw [rounds_succ]
  go_wp2_with fail
  refine (resolve_nil (wa.heap.size + 1) wa.heap.size w.heap.size 0 name path ⟨#[]⟩ _ (two_second _ _ _) (two_first _ _ _)).mono ?_
  rintro e w5 ⟨rfl, hA⟩
  have hws := hnx.size
  have hbel : Below w.heap.size w w5 := ((hnx.alloc hnx.size _).alloc (by simp; omega) _).trans (hA.below hws)
  have d2 : w5.cell? ⟨wa.heap.size, 2, none⟩ = some (.int .i64 1) := by rw [cell_of_row _ _ _ _ _ _ hA.doc]; rfl
  have d3 : w5.cell? ⟨wa.heap.size, 3, none⟩ = some (.string path) := by rw [cell_of_row _ _ _ _ _ _ hA.doc]; rfl
  clear hA hnx
  go_wp2
  refine wp_loop_rounds 1 ?_
  rw [rounds_succ]
  go_wp2
  go_ret
  exact ⟨rfl, hbel⟩

/-- THE WALK: the law answers true, whatever came in. -/
theorem pass_any (w : World) (ao : Option Addr) (n c : Nat) (Px Kx Nx : Nat → ByteArray) (hm : n ≤ maxLen) (h : n = 0 ∨ ∃ b off, ao = some ⟨b, off, none⟩ ∧ IsItems w b off n Px Kx Nx) (name path : ByteArray) :
    Calls Ybaf.prog 3 #[.string name, .string path, .slice ao n c] w fun e w' => e = .returned (.bool true) ∧ Below w.heap.size w w' := by
  by_cases hn : n ≤ 1024
  · rcases h with rfl | ⟨b, off, rfl, hit⟩
    · exact pass_none w ao c name path
    · exact pass_some w b off n c Px Kx Nx hn hit name path
  · exact pass_long w ao n c hm hn name path
end Go.Proofs.YbulkwyaFmt
