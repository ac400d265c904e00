import Derived.Test.YbulkwyaFmtErrorf
import Derived.Test.YbulkwyaFmtAsHit
import Derived.LaidEqlPtr
namespace Go.Proofs.YbulkwyaFmt
open Go.RowKit Go.Extern.Stop Go.Stop Go.Extern

theorem Ybaf.info29w : (Ybaf.prog.info? 29).map (fun i => (i.zero, i.size, i.bytes)) = some (some (.agg #[.string ⟨#[]⟩, .string ⟨#[]⟩, .string ⟨#[]⟩, .nilIface, .nilIface]), 5, 80) := by kernel_rfl

/-- errors.As, told by what it leaves. -/
theorem as_left (pb : Nat) (e : Addr) (tb : Nat) (old : Value) (w : World) (hg : w.cell? ⟨0, 0, none⟩ = some (.iface 70 (.agg #[.pointer (some ⟨1, 32, none⟩)]))) (h1 : w.cell? ⟨pb, 1, none⟩ = some (.iface 43 (.pointer (some e)))) (ht0 : w.cell? ⟨tb, 0, none⟩ = some old) (hf0 : w.frozen? ⟨tb, 0, none⟩ = false) :
    Calls Ybaf.prog 7 #[.iface 68 (.pointer (some ⟨pb, 0, none⟩)), .iface 48 (.pointer (some ⟨tb, 0, none⟩))] w fun ev w' => ev = .returned (.bool true) ∧ w'.cell? ⟨tb, 0, none⟩ = some (.pointer (some e)) ∧ (∀ k, k < w.heap.size → k ≠ tb → w'.heap[k]? = w.heap[k]?) ∧ Below tb w w' := by
  have htl : tb < w.heap.size := World.block_lt_of_cell? _ _ ht0
  refine (as_wrap pb e ⟨tb, 0, none⟩ old w hg h1 ht0 hf0).mono ?_
  rintro ev w' ⟨rfl, rfl⟩
  refine ⟨rfl, ?_, fun k hk hne => ?_, ?_⟩
  · refine World.cell?_setCell_same _ _ _ (u := old) ?_
    rw [World.cell?_alloc_lt _ _ _ (by simp; omega), World.cell?_alloc_lt _ _ _ (by simp; omega), World.cell?_alloc_lt _ _ _ (by simp; omega), World.cell?_alloc_lt _ _ _ (by exact htl)]
    exact ht0
  · rw [Below.heap_setCell _ _ _ _ (by exact hne), Below.heap_alloc _ _ _ (by simp; omega), Below.heap_alloc _ _ _ (by simp; omega), Below.heap_alloc _ _ _ (by simp; omega), Below.heap_alloc _ _ _ hk]
  · exact (((((Below.refl tb w).alloc (by omega) _).alloc (by simp; omega) _).alloc (by simp; omega) _).alloc (by simp; omega) _).setCell (Nat.le_refl _) _

theorem eql43 (w : World) (e : Addr) : (binOp .eql 43 (.pointer (some e)) (.pointer (some e))).run Ybaf.prog w = .ok (.bool true) w := by
  obtain ⟨i, hi, _⟩ := Option.map_eq_some_iff.1 size45
  exact run_eql_ptr_same (P := Ybaf.prog) w (tp := 43) e Ybaf.underlying43 hi

theorem three_first (w : World) (o1 o2 o3 : Obj) : (((w.alloc o1).alloc o2).alloc o3).heap[w.heap.size]? = some o1 := by
  rw [Below.heap_alloc _ _ _ (by simp; omega), Below.heap_alloc _ _ _ (by simp)]
  exact heap_alloc_new _ _
theorem three_second (w : World) (o1 o2 o3 : Obj) : (((w.alloc o1).alloc o2).alloc o3).heap[w.heap.size + 1]? = some o2 := by
  rw [Below.heap_alloc _ _ _ (by simp)]
  have h := heap_alloc_new (w.alloc o1) o2
  rw [World.size_alloc] at h
  exact h
theorem three_third (w : World) (o1 o2 o3 : Obj) : (((w.alloc o1).alloc o2).alloc o3).heap[w.heap.size + 1 + 1]? = some o3 := by
  have h := heap_alloc_new ((w.alloc o1).alloc o2) o3
  simp only [World.size_alloc] at h
  exact h
theorem three_old (w : World) (o1 o2 o3 : Obj) (k : Nat) (hk : k < w.heap.size) : (((w.alloc o1).alloc o2).alloc o3).heap[k]? = w.heap[k]? := by
  rw [Below.heap_alloc _ _ _ (by simp; omega), Below.heap_alloc _ _ _ (by simp; omega), Below.heap_alloc _ _ _ hk]

/-- A row of k matches that the call has made. -/
def Row5 (w : World) (ab k : Nat) : Prop := ∃ cur : Array Value, w.heap[ab]? = some (.cells cur 29 (0, 0)) ∧ cur.size = k * 5

set_option maxHeartbeats 1600000 in
set_option maxRecDepth 100000 in
theorem wrap_any (w : World) (name path : ByteArray) (code n : Int) (hn0 : 0 ≤ n) (hn1 : n ≤ 255) (hg : w.cell? ⟨0, 0, none⟩ = some (.iface 70 (.agg #[.pointer (some ⟨1, 32, none⟩)]))) :
    Calls Ybaf.prog 4 #[.string name, .string path, .int .i64 code, .int .u8 n] w fun e w' => e = .returned (.bool true) ∧ Below w.heap.size w w' := by
  obtain ⟨i0, hi, hz0, hz1, hz2⟩ := info_parts Ybaf.info29w
  obtain ⟨k, hk⟩ : ∃ k : Nat, (k : Int) = n % 4 := ⟨(n % 4).toNat, by omega⟩
  have hk4 : k < 4 := by omega
  have hk' : n % 4 = (k : Int) := hk.symm
  clear hk
  go_enter Ybaf.func4, Ybaf.ntmps4
  go_wp2_with (at_make; (refine wpList_make_full _ rfl _ _ 23 rfl w.heap.size 29 i0 _ 5 Ybaf.underlying23 hi hz0 hz1 _ _ _ _ k rfl rfl (by omega) (by omega) ?b2 ?b3 (Nat.le_refl _) ?_))
  case b2 => rw [hz2]; omega
  case b3 => unfold maxLen; omega
  intro w0 hown0 hgrow0
  have hrow0 : Row5 w0 w.heap.size k := by
    rcases hown0.2 with ⟨h, _⟩ | ⟨g, cap, cur, h, _, hg, _, _, hcs, _⟩
    · simp at h
    · simp only [Value.slice.injEq, Option.some.injEq, Addr.mk.injEq, and_true, true_and] at h
      obtain ⟨rfl, rfl⟩ := h
      exact ⟨cur, hg, hcs⟩
  have hnx0 : Below w.heap.size w w0 := (Below.refl _ _).grown hgrow0 (Nat.le_refl _) (fun k h => by cases h)
  clear hown0 hgrow0
  go_wp2
  go_loopw [11] (fun i wr => ∃ j : Nat, j ≤ k ∧ i = .int .i64 j ∧ Row5 wr w.heap.size k ∧ Below w.heap.size w wr) (fun i _ => k - (intOf i).toNat)
  case atStart => exact ⟨0, Nat.zero_le _, rfl, hrow0, hnx0⟩
  case round =>
    obtain ⟨j, hj, rfl, hrow, hnx⟩ := hrel
    by_cases hlt : j < k
    · obtain ⟨cur, hcur, hcs⟩ := hrow
      obtain ⟨v2, f2⟩ : ∃ v2, wr.cell? ⟨w.heap.size, j * 5 + 2, none⟩ = some v2 := by
        rw [cell_of_row _ _ _ _ _ _ hcur]
        exact ⟨cur[j * 5 + 2]'(by omega), by rw [Array.getElem?_eq_getElem]⟩
      have hfz := frozen_of_row _ w.heap.size (j * 5 + 2) _ _ hcur
      have R : Row5 (wr.setCell ⟨w.heap.size, j * 5 + 2, none⟩ (.string path)) w.heap.size k := ⟨_, heap_setCell_same _ _ (j * 5 + 2) _ _ (.string path) hcur, by simpa using hcs⟩
      have R2 : Below w.heap.size w (wr.setCell ⟨w.heap.size, j * 5 + 2, none⟩ (.string path)) := hnx.setCell (Nat.le_refl _) _
      clear hcur hrow0 hnx0
      go_wp2
      go_roundw
      case rel => exact ⟨j + 1, by omega, by go_num, R, R2⟩
      case measure => simp [intOf]; omega
    · obtain ⟨wa, hwa⟩ : ∃ wa, wa = wr := ⟨_, rfl⟩
      subst hwa
      obtain rfl : j = k := by omega
      have hws := hnx.size
      have hlt0 : 0 < w.heap.size := World.block_lt_of_cell? _ _ hg
      have hsn := fun wx => run_neq_slice_nil_any (P := Ybaf.prog) wx 23 29 none 0 0 0 0 Ybaf.underlying23
      have heq := eql43
      clear hrow hrow0 hnx0
      go_wp2_with fail
      refine (resolve_err (wa.heap.size + 1 + 1) (wa.heap.size + 1) w.heap.size j ⟨wa.heap.size, 0, none⟩ name path ⟨#[]⟩ _ (by omega) (three_third _ _ _ _) (three_second _ _ _ _)).mono ?_
      rintro e w5 ⟨w1, rfl, hA, hb5, hwc⟩
      have hs1 := hA.size
      simp only [World.size_alloc] at hs1
      have hb5s := hb5.size
      have hk5 : ∀ k, k < wa.heap.size + 1 + 1 + 1 → k ≠ wa.heap.size + 1 → w5.heap[k]? = (((wa.alloc (.cells #[.int .i64 code] 45)).alloc (.cells #[.slice (some ⟨w.heap.size, 0, none⟩) j j, .iface 43 (.pointer (some ⟨wa.heap.size, 0, none⟩)), .int .i64 0, .string ⟨#[]⟩] 34)).alloc (.cells #[.string name, .iface 30 (.pointer (some ⟨wa.heap.size + 1, 0, none⟩))] 39)).heap[k]? := fun k hk hne => (hb5.block k (by omega)).trans (hA.rest k hne)
      have d2 : w5.cell? ⟨wa.heap.size + 1, 2, none⟩ = some (.int .i64 1) := by rw [hb5.cell (by show wa.heap.size + 1 < w1.heap.size; omega), cell_of_row _ _ _ _ _ _ hA.doc]; rfl
      have d3 : w5.cell? ⟨wa.heap.size + 1, 3, none⟩ = some (.string path) := by rw [hb5.cell (by show wa.heap.size + 1 < w1.heap.size; omega), cell_of_row _ _ _ _ _ _ hA.doc]; rfl
      have he5 : w5.heap[wa.heap.size]? = some (.cells #[.int .i64 code] 45) := by rw [hk5 _ (by omega) (by omega)]; exact three_first _ _ _ _
      have hg5 : w5.cell? ⟨0, 0, none⟩ = some (.iface 70 (.agg #[.pointer (some ⟨1, 32, none⟩)])) := by
        rw [World.cell?_of_block (w := wa) ((hk5 0 (by omega) (by omega)).trans (three_old _ _ _ _ 0 (by omega))), hnx.cell (by exact hlt0)]
        exact hg
      have hbel5 : Below w.heap.size w w5 := ((((hnx.alloc hws _).alloc (by simp; omega) _).alloc (by simp; omega) _).trans (hA.below (by omega))).trans (hb5.mono (by omega))
      obtain ⟨X, hX⟩ : ∃ X, X = w1.heap.size + 1 := ⟨_, rfl⟩
      rw [← hX] at hwc ⊢
      have hea : wa.heap.size < w5.heap.size := by omega
      have He5 : Hid (w5.heap[wa.heap.size]? = some (.cells #[.int .i64 code] 45)) := he5
      have hXl : X < w5.heap.size := World.block_lt_of_cell? _ _ hwc
      have hw5 := hbel5.size
      clear hX hs1 hb5s hk5 hA hb5 hnx he5
      go_wp2_with fail
      refine (is_wrap X ⟨wa.heap.size, 0, none⟩ w5 hwc).mono ?_
      rintro e w' ⟨rfl, rfl⟩
      go_wp2_with fail
      refine (as_left X ⟨wa.heap.size, 0, none⟩ w5.heap.size (.pointer none) _ (by rw [World.cell?_alloc_lt _ _ _ (by show 0 < w5.heap.size; omega)]; exact hg5) (by rw [World.cell?_alloc_lt _ _ _ (by exact hXl)]; exact hwc) (by rw [World.cell?_alloc_at _ _ _ _ rfl]; rfl) (World.frozen?_alloc_at _ _ _ _ rfl)).mono ?_
      rintro ev w7 ⟨rfl, ht7, hk7, hb7⟩
      have c7 : w7.cell? ⟨wa.heap.size, 0, none⟩ = some (.int .i64 code) := by
        rw [cell_of_row _ _ _ _ _ _ ((hk7 wa.heap.size (by simp; omega) (by omega)).trans ((Below.heap_alloc _ _ _ hea).trans He5.out))]; rfl
      have hb8 : Below w.heap.size w w7 := (hbel5.alloc hw5 _).trans (hb7.mono hw5)
      clear hk7 hb7
      go_wp2
      go_ret
      exact ⟨by simp, hb8⟩
end Go.Proofs.YbulkwyaFmt
