import Derived.Test.YbulkwyoMake
namespace Go.Proofs.Ybulkwyo
open Go.RowKit

theorem Yba.size47 : (Yba.prog.info? 47).map (fun i => i.size) = some 2 := by kernel_rfl

theorem neq_same (w : World) (q : Nat) : (binOp .neq 44 (.pointer (some ⟨q, 0, none⟩)) (.pointer (some ⟨q, 0, none⟩))).run Yba.prog w = .ok (.bool false) w := by
  obtain ⟨i, hi, _⟩ := Option.map_eq_some_iff.1 Yba.size47
  have h : ∀ d : Nat, (Op.equalIn (d + 1) 44 (.pointer (some ⟨q, 0, none⟩)) (.pointer (some ⟨q, 0, none⟩))).run Yba.prog w = .ok true w := fun d => by
    simp [Op.equalIn, run_underlying Yba.underlying44, sizeOf, typeInfo, hi, run_sameAddr_same]
  simp only [binOp]
  simp [Op.equal, Op.maxDepth, h 9999]

theorem two_first (w : World) (o1 o2 : Obj) : ((w.alloc o1).alloc o2).heap[w.heap.size]? = some o1 := by
  rw [Below.heap_alloc _ _ _ (by simp)]
  exact heap_alloc_new _ _

set_option maxHeartbeats 1600000 in
set_option maxRecDepth 100000 in
theorem picks_own (w : World) (n m : Int) (hn0 : 0 ≤ n) (hn1 : n ≤ 255) (hm0 : 0 ≤ m) (hm1 : m ≤ 255) :
    Calls Yba.prog 3 #[.bool false, .int .u8 n, .int .u8 m] w fun e w' => e = .returned (.bool true) ∧ Below w.heap.size w w' := by
  have hns := neq_same
  obtain ⟨k, hk⟩ : ∃ k : Nat, n % 8 = (k : Int) := ⟨(n % 8).toNat, by omega⟩
  obtain ⟨l, hl⟩ : ∃ l : Nat, m % 8 = (l : Int) := ⟨(m % 8).toNat, by omega⟩
  have hk7 : k ≤ 7 := by omega
  have hl7 : l ≤ 7 := by omega
  go_enter Yba.func3, Yba.ntmps3
  go_wp2_with fail
  refine (make_any w k hk7).mono ?_
  rintro e w1 ⟨rfl, hM1, hb1⟩
  clear hk
  go_wp2_with fail
  refine (make_any w1 l hl7).mono ?_
  rintro e w2 ⟨rfl, hM2, hb2⟩
  have hb3 : Below w.heap.size w w2 := hb1.trans (hb2.mono hb1.size)
  have hs3 := hb3.size
  have h2l := hM2.lt
  clear hl hb1 hb2 hM1
  go_wp2_with fail
  refine (params_own _ w2.heap.size (.slice (some ⟨w1.heap.size, 0, none⟩) l l) (by rw [World.cell?_alloc_at _ _ _ _ rfl]; rfl) (by rw [World.cell?_alloc_at _ _ _ _ rfl]; rfl)).mono ?_
  rintro e wx ⟨rfl, rfl⟩
  have hb4 := fun o => hb3.alloc hs3 o
  have hM4 : ∀ o, Made (w2.alloc o) w1.heap.size l l := fun o => hM2.later (Below.heap_alloc _ _ _ h2l)
  generalize hw4 : w2.alloc _ = w4
  have hB := hb4 (.cells #[.int .i64 2, .string ⟨#[84]⟩, .int .i64 0, .nilIface, .pointer none, .pointer none, .pointer none, .slice (some ⟨w1.heap.size, 0, none⟩) l l, .int .i64 0, .bool false] 34)
  have hM := hM4 (.cells #[.int .i64 2, .string ⟨#[84]⟩, .int .i64 0, .nilIface, .pointer none, .pointer none, .pointer none, .slice (some ⟨w1.heap.size, 0, none⟩) l l, .int .i64 0, .bool false] 34)
  rw [hw4] at hB hM
  have H : Hid (Made w4 w1.heap.size l l) := hM
  clear hw4 hb4 hM4 hM hb3 hM2
  go_wp2
  go_loopw [12] (fun i wr => ∃ j : Nat, j ≤ l ∧ i = .int .i64 j ∧ wr.heap = w4.heap ∧ Below w.heap.size w wr) (fun i _ => l - (intOf i).toNat)
  case atStart => exact ⟨0, Nat.zero_le _, rfl, rfl, hB⟩
  case round =>
    obtain ⟨j, hj, rfl, hheap, hbr⟩ := hrel
    by_cases hlt : j < l
    · obtain ⟨q, hq⟩ := (H.out.later (w' := wr) (by rw [hheap])).at hlt
      have HH : Hid (wr.heap = w4.heap) := hheap
      clear hheap
      go_wp2
      go_quiet (fail)
      go_wp2
      go_roundw
      case rel => exact ⟨j + 1, by omega, by go_num, HH.out, hbr.trans ⟨rfl, rfl, rfl, Nat.le_refl _, fun _ _ => rfl⟩⟩
      case measure => simp [intOf]; omega
    · go_wp2
      go_ret
      exact ⟨rfl, hbr⟩

set_option maxHeartbeats 1600000 in
set_option maxRecDepth 100000 in
theorem picks_decl (w : World) (n m : Int) (hn0 : 0 ≤ n) (hn1 : n ≤ 255) (hm0 : 0 ≤ m) (hm1 : m ≤ 255) :
    Calls Yba.prog 3 #[.bool true, .int .u8 n, .int .u8 m] w fun e w' => e = .returned (.bool true) ∧ Below w.heap.size w w' := by
  have hns := neq_same
  obtain ⟨k, hk⟩ : ∃ k : Nat, n % 8 = (k : Int) := ⟨(n % 8).toNat, by omega⟩
  obtain ⟨l, hl⟩ : ∃ l : Nat, m % 8 = (l : Int) := ⟨(m % 8).toNat, by omega⟩
  have hk7 : k ≤ 7 := by omega
  have hl7 : l ≤ 7 := by omega
  go_enter Yba.func3, Yba.ntmps3
  go_wp2_with fail
  refine (make_any w k hk7).mono ?_
  rintro e w1 ⟨rfl, hM1, hb1⟩
  clear hk
  go_wp2_with fail
  refine (make_any w1 l hl7).mono ?_
  rintro e w2 ⟨rfl, hM2, hb2⟩
  have hb3 : Below w.heap.size w w2 := hb1.trans (hb2.mono hb1.size)
  have hs3 := hb3.size
  have hM3 : Made w2 w.heap.size k k := hM1.later (hb2.block _ hM1.lt)
  have h2l := hM3.lt
  clear hl hb1 hb2 hM1 hM2
  go_wp2_with fail
  obtain ⟨w4, hw4⟩ : ∃ w4, w4 = (w2.alloc (.cells #[.int .i64 2, .string ⟨#[84]⟩, .int .i64 0, .nilIface, .pointer (some ⟨w2.heap.size + 1, 0, none⟩), .pointer none, .pointer none, .slice (some ⟨w1.heap.size, 0, none⟩) l l, .int .i64 0, .bool false] 34)).alloc (.cells #[.pointer none, .pointer none, .pointer (some ⟨w2.heap.size, 0, none⟩), .int .i64 0, .pointer none, .slice (some ⟨w.heap.size, 0, none⟩) k k, .bool false, .nilIface, .pointer none, .map none, .slice none 0 0] 42) := ⟨_, rfl⟩
  have hB : Below w.heap.size w w4 := by rw [hw4]; exact (hb3.alloc hs3 _).alloc (by simp; omega) _
  have hM : Made w4 w.heap.size k k := hM3.later (by rw [hw4, Below.heap_alloc _ _ _ (by simp; omega), Below.heap_alloc _ _ _ h2l])
  have h4 : w4.cell? ⟨w2.heap.size, 4, none⟩ = some (.pointer (some ⟨w2.heap.size + 1, 0, none⟩)) := by
    rw [hw4, cell_of_row _ _ _ _ _ _ (two_first _ _ _)]; rfl
  have h5 : w4.cell? ⟨w2.heap.size + 1, 5, none⟩ = some (.slice (some ⟨w.heap.size, 0, none⟩) k k) := by
    rw [hw4, World.cell?_alloc_at _ _ _ _ (by simp)]; rfl
  rw [← hw4]
  refine (params_decl w4 w2.heap.size (w2.heap.size + 1) _ h4 h5).mono ?_
  rintro e wx ⟨rfl, rfl⟩
  have H : Hid (Made w4 w.heap.size k k) := hM
  clear hw4 hM hb3 hM3 h4 h5
  go_wp2
  go_loopw [12] (fun i wr => ∃ j : Nat, j ≤ k ∧ i = .int .i64 j ∧ wr.heap = w4.heap ∧ Below w.heap.size w wr) (fun i _ => k - (intOf i).toNat)
  case atStart => exact ⟨0, Nat.zero_le _, rfl, rfl, hB⟩
  case round =>
    obtain ⟨j, hj, rfl, hheap, hbr⟩ := hrel
    by_cases hlt : j < k
    · obtain ⟨q, hq⟩ := (H.out.later (w' := wr) (by rw [hheap])).at hlt
      have HH : Hid (wr.heap = w4.heap) := hheap
      clear hheap
      go_wp2
      go_quiet (fail)
      go_wp2
      go_roundw
      case rel => exact ⟨j + 1, by omega, by go_num, HH.out, hbr.trans ⟨rfl, rfl, rfl, Nat.le_refl _, fun _ _ => rfl⟩⟩
      case measure => simp [intOf]; omega
    · go_wp2
      go_ret
      exact ⟨rfl, hbr⟩

/-- THE WALK: the law answers true, whatever came in. -/
theorem picks_any (w : World) (b : Bool) (n m : Int) (hn0 : 0 ≤ n) (hn1 : n ≤ 255) (hm0 : 0 ≤ m) (hm1 : m ≤ 255) :
    Calls Yba.prog 3 #[.bool b, .int .u8 n, .int .u8 m] w fun e w' => e = .returned (.bool true) ∧ Below w.heap.size w w' := by
  cases b
  · exact picks_own w n m hn0 hn1 hm0 hm1
  · exact picks_decl w n m hn0 hn1 hm0 hm1
end Go.Proofs.Ybulkwyo
