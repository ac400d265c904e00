import Derived.Test.YbulkwviWalks
namespace Go.Proofs.Ybulkwvi
open Go.RowKit

theorem Yba.size33 : (Yba.prog.info? 33).map (fun i => i.size) = some 10 := by kernel_rfl

theorem eql_same (w : World) (q : Nat) : (binOp .eql 25 (.pointer (some ⟨q, 0, none⟩)) (.pointer (some ⟨q, 0, none⟩))).run Yba.prog w = .ok (.bool true) w := by
  obtain ⟨i, hi, _⟩ := Option.map_eq_some_iff.1 Yba.size33
  exact run_eql_ptr_same (P := Yba.prog) w (tp := 25) ⟨q, 0, none⟩ Yba.underlying25 hi

theorem neq_same (w : World) (q : Nat) : (binOp .neq 25 (.pointer (some ⟨q, 0, none⟩)) (.pointer (some ⟨q, 0, none⟩))).run Yba.prog w = .ok (.bool false) w := by
  obtain ⟨i, hi, _⟩ := Option.map_eq_some_iff.1 Yba.size33
  have h : ∀ d : Nat, (Op.equalIn (d + 1) 25 (.pointer (some ⟨q, 0, none⟩)) (.pointer (some ⟨q, 0, none⟩))).run Yba.prog w = .ok true w := fun d => by
    simp [Op.equalIn, run_underlying Yba.underlying25, sizeOf, typeInfo, hi, run_sameAddr_same]
  simp only [binOp]
  simp [Op.equal, Op.maxDepth, h 9999]

section
variable {B : Nat} {w : World} {g n cap : Nat} {qs : List Nat} {Sx : Nat → ByteArray}

theorem Spans.mono (h : Spans B w g n cap qs Sx) {B' : Nat} (hB : B' ≤ B) : Spans B' w g n cap qs Sx := by
  refine ⟨h.len, ⟨h.own.1, ?_⟩, fun i q hq => ?_, h.nodup⟩
  · rcases h.own.2 with x | ⟨g', cap', cur, e, hb, r⟩
    · exact .inl x
    · exact .inr ⟨g', cap', cur, e, by omega, r⟩
  · obtain ⟨cs, a, b, c, d⟩ := h.blocks i q hq
    exact ⟨cs, a, b, by omega, d⟩

theorem Spans.congr (h : Spans B w g n cap qs Sx) {Sy : Nat → ByteArray} (e : ∀ i, i < n → Sx i = Sy i) : Spans B w g n cap qs Sy := by
  refine ⟨h.len, h.own, fun i q hq => ?_, h.nodup⟩
  obtain ⟨cs, a, b, c, d⟩ := h.blocks i q hq
  have hl := (List.getElem?_eq_some_iff.1 hq).1
  exact ⟨cs, a, by rw [b, e i (by have := h.len; omega)], c, d⟩

/-- A block that is none of them is written. -/
theorem Spans.kept (h : Spans B w g n cap qs Sx) {w' : World} {r : Option Nat} (hg : w.grownBy w' r) (h1 : some g ≠ r) (h2 : ∀ q ∈ qs, some q ≠ r) : Spans B w' g n cap qs Sx := by
  refine ⟨h.len, h.own.kept hg (.inr (by simpa [Value.ownBlock] using h1)), fun i q hq => ?_, h.nodup⟩
  obtain ⟨cs, a, b, c, d⟩ := h.blocks i q hq
  exact ⟨cs, by rw [hg.block q (Array.getElem?_eq_some_iff.1 a).1 (h2 q (List.mem_of_getElem? hq))]; exact a, b, c, d⟩

theorem grownBy_setCell (w : World) (a : Addr) (v : Value) : w.grownBy (w.setCell a v) (some a.block) :=
  ⟨rfl, rfl, rfl, by simp [World.setCell], fun k _ hk => Below.heap_setCell _ _ _ _ (by simpa using hk)⟩

end

theorem empty_isEmpty : ByteArray.empty.toList.isEmpty = true := by first | rfl | decide | simp

/-- A span ahead of the others, in a new row. -/
theorem front_spans {B F : Nat} {w : World} {g2 g3 n : Nat} {qs : List Nat} {Sx : Nat → ByteArray} {cs : Array Value} (hF : w.heap[F]? = some (.cells cs 33 (0, 0))) (hcs : cs[2]? = some (.string ByteArray.empty)) (hB : B ≤ F)
    (hs : Spans (F + 1) w g2 n (n + 1) qs Sx) (hown : w.ownsRow B 25 1 (.slice (some ⟨g3, 0, none⟩) (1 + n) (n + 1)) (1 + n) ([ptr F] ++ qs.map ptr)) (h3 : F < g3) (hq3 : ∀ q ∈ qs, q < g3) :
    Spans B w g3 (1 + n) (n + 1) (F :: qs) (fun i => if i = 0 then ByteArray.empty else Sx (i - 1)) := by
  refine ⟨by simp [hs.len]; omega, by simpa using hown, fun i q hq => ?_, ?_⟩
  · cases i with
    | zero =>
      simp at hq
      subst hq
      exact ⟨cs, hF, by simpa using hcs, hB, by omega⟩
    | succ i =>
      simp at hq
      obtain ⟨c2, a, b, c, d⟩ := hs.blocks i q hq
      exact ⟨c2, a, by simpa using b, by omega, by have := hq3 q (List.mem_of_getElem? hq); omega⟩
  · refine List.nodup_cons.2 ⟨fun hm => ?_, hs.nodup⟩
    obtain ⟨i, hi⟩ := List.getElem?_of_mem hm
    obtain ⟨_, _, _, c, _⟩ := hs.blocks i F hi
    omega

/-- What came in reads as it did. -/
theorem IsStrs.later {w w' : World} {ao : Option Addr} {n : Nat} {Sx : Nat → ByteArray} (h : IsStrs w ao n Sx) (hb : Below w.heap.size w w') : IsStrs w' ao n Sx := by
  rcases h with h | ⟨b, off, rfl, hl, hc⟩
  · exact .inl h
  · exact .inr ⟨b, off, rfl, by have := hb.size; omega, fun i hi => (hb.cell (by exact hl)).trans (hc i hi)⟩

theorem append_long (w : World) (ao : Option Addr) (n c : Nat) (hm : n ≤ maxLen) (hn : ¬ n ≤ 1024) :
    Calls Yba.prog 4 #[.slice ao n c] w fun e w' => e = .returned (.bool true) ∧ Below w.heap.size w w' := by
  unfold maxLen at hm
  have h : (1024 : Int) < (n : Int) := by omega
  go_enter Yba.func4, Yba.ntmps4
  go_wp2
  go_ret
  exact ⟨rfl, Below.refl _ _⟩

/-- A root: span j. -/
theorem append_hit (w : World) (ao : Option Addr) (n c : Nat) (Sx : Nat → ByteArray) (hn : n ≤ 1024) (h : IsStrs w ao n Sx)
    (j : Nat) (hj : j < n) (he : (Sx j).toList.isEmpty = true) (hb : ∀ i, i < j → (Sx i).toList.isEmpty = false) :
    Calls Yba.prog 4 #[.slice ao n c] w fun e w' => e = .returned (.bool true) ∧ Below w.heap.size w w' := by
  have hes := eql_same
  have hns := neq_same
  obtain ⟨i0, hi, hz0, hz1, hz2⟩ := info_parts Yba.info25
  go_enter Yba.func4, Yba.ntmps4
  go_wp2_with fail
  refine (build_any w ao n c Sx hn h).mono ?_
  rintro e w1 ⟨T, g, qs, rfl, hT, hT1, hgT, hqT, hs, hnx⟩
  have hc1 : w1.cell? ⟨T, 1, none⟩ = some (.slice (some ⟨g, 0, none⟩) n (n + 1)) := by rw [cell_of_row _ _ _ _ _ _ hT]; rfl
  have hTl : T < w1.heap.size := (Array.getElem?_eq_some_iff.1 hT).1
  have HT : Hid (w1.heap[T]? = some (.cells #[.string ⟨#[116]⟩, .slice (some ⟨g, 0, none⟩) n (n + 1), .bool false] 29 (0, 0))) := hT
  clear hT
  obtain ⟨q, hq⟩ := hs.get hj
  have Hq : Hid (qs[j]? = some q) := hq
  clear hq
  go_wp2_with fail
  refine (root_hit _ w1 T g n (n + 1) qs Sx (by omega) hc1 hs j q Hq.out he hb).mono ?_
  rintro e w2 ⟨rfl, rfl⟩
  go_wp2_with (at_builtin; (refine wpList_append_fits _ rfl (.tmp 23) (.tmp 25) 27 rfl w.heap.size 25 i0 1 Yba.underlying27 hi hz1 g n (n + 1) _ rfl ((hs.own.alloc _).alloc _) ⟨w1.heap.size + 1, 0, none⟩ 1 1 [.pointer (some ⟨w1.heap.size, 0, none⟩)] rfl rfl ?c1 ?c2 (by omega) ?_))
  case c1 =>
    intro t u ht
    match t, ht with
    | 0, ht => simp at ht; subst ht; simp [Addr.add]
  case c2 => intro u hu; simp at hu; subst hu; rfl
  intro w2 hown2 hgrow2
  have hgs := hgrow2.size
  simp only [World.size_alloc] at hgs
  have hT2 : w2.heap[T]? = w1.heap[T]? := by
    rw [hgrow2.block T (by simp; omega) (by simp; omega), Below.heap_alloc _ _ _ (by simp; omega), Below.heap_alloc _ _ _ hTl]
  have hc2 : w2.cell? ⟨T, 1, none⟩ = some (.slice (some ⟨g, 0, none⟩) n (n + 1)) := by rw [cell_of_row _ _ _ _ _ _ (hT2.trans HT.out)]; rfl
  have hf2 : w2.frozen? ⟨T, 1, none⟩ = false := frozen_of_row _ _ _ _ _ (hT2.trans HT.out)
  have hs2 := (hs.congr (Sy := fun i => if i = n then ByteArray.empty else Sx i) (fun i hi => by simp; omega)).push _ ByteArray.empty rfl _ hnx.size (by simp) hown2 hgrow2
  have hnx2 : Below w.heap.size w w2 := ((hnx.alloc hnx.size _).alloc (by have := hnx.size; simp; omega) _).grown hgrow2 (by have := hnx.size; simp; omega) (fun k hk => by cases hk; exact (hs.own.lt _ rfl).1)
  clear hown2 hgrow2 hT2
  have hq2 : ∀ q ∈ qs ++ [w1.heap.size], q ≠ T := by
    intro q hq
    rcases List.mem_append.1 hq with h | h
    · have := hqT q h; omega
    · simp at h; omega
  have hs3 := hs2.kept (grownBy_setCell w2 ⟨T, 1, none⟩ (.slice (some ⟨g, 0, none⟩) (n + 1) (n + 1))) (by simp; omega) (fun q hq => by simpa using hq2 q hq)
  have hnx3 : Below w.heap.size w (w2.setCell ⟨T, 1, none⟩ (.slice (some ⟨g, 0, none⟩) (n + 1) (n + 1))) := hnx2.setCell (by exact hT1) _
  have hc3 : (w2.setCell ⟨T, 1, none⟩ (.slice (some ⟨g, 0, none⟩) (n + 1) (n + 1))).cell? ⟨T, 1, none⟩ = some (.slice (some ⟨g, 0, none⟩) (n + 1) (n + 1)) := by
    exact World.cell?_setCell_same _ _ _ hc2
  clear hs2 hnx2
  go_wp2_with fail
  refine (root_hit _ _ T g (n + 1) (n + 1) _ _ (by omega) hc3 hs3 j q ?_ ?_ ?_).mono ?_
  · rw [List.getElem?_append_left (by have := hs.len; omega)]; exact Hq.out
  · simpa [show j ≠ n by omega] using he
  · intro i hi; simpa [show i ≠ n by omega] using hb i hi
  rintro e w3x ⟨rfl, rfl⟩
  obtain ⟨w3, hw3⟩ : ∃ w3, w3 = w2.setCell ⟨T, 1, none⟩ (.slice (some ⟨g, 0, none⟩) (n + 1) (n + 1)) := ⟨_, rfl⟩
  rw [← hw3] at hnx3 ⊢
  clear hw3 hs3 hc3 hc2 hf2 hq2 hs hnx hc1 HT Hq
  go_wp2_with fail
  have hsz3 := hnx3.size
  have hnx4 : ∀ o, Below w.heap.size w (w3.alloc o) := fun o => hnx3.alloc hnx3.size o
  refine (build_any _ ao n c Sx hn (h.later (hnx4 _))).mono ?_
  rintro e w5 ⟨T2, g2, qs2, rfl, hT2, hT21, hgT2, hqT2, hs5, hnx5⟩
  have hF5 := (hnx5.block w3.heap.size (by simp)).trans (heap_alloc_new _ _)
  have hnx5' := (hnx4 _).trans (hnx5.mono (by simp; omega))
  simp only [World.size_alloc] at hT21 hs5 hnx5
  have hT2l : T2 < w5.heap.size := (Array.getElem?_eq_some_iff.1 hT2).1
  have hc5 : w5.cell? ⟨T2, 1, none⟩ = some (.slice (some ⟨g2, 0, none⟩) n (n + 1)) := by rw [cell_of_row _ _ _ _ _ _ hT2]; rfl
  have HT2 : Hid (w5.heap[T2]? = some (.cells #[.string ⟨#[116]⟩, .slice (some ⟨g2, 0, none⟩) n (n + 1), .bool false] 29 (0, 0))) := hT2
  have HF5 := show Hid _ from hF5
  clear hT2 hF5
  go_wp2_with (at_make; refine wpList_make_own _ rfl _ _ 27 rfl w.heap.size 25 i0 (.pointer none) 1 Yba.underlying27 hi hz0 hz1 _ _ _ (n + 1) rfl rfl (by omega) ?b2 ?b3 ?b4 ?_)
  case b2 => rw [hz2]; omega
  case b3 => unfold maxLen; omega
  case b4 => exact hnx5'.size
  intro w6 hown6 hgrow6
  have hgs6 := hgrow6.size
  go_wp2_with (at_builtin; (refine wpList_append_fits _ rfl (.tmp 50) (.tmp 52) 27 rfl w.heap.size 25 i0 1 Yba.underlying27 hi hz1 w5.heap.size 0 (n + 1) _ rfl (hown6.alloc _) ⟨w6.heap.size, 0, none⟩ 1 1 [.pointer (some ⟨w3.heap.size, 0, none⟩)] rfl rfl ?d1 ?d2 (by omega) ?_))
  case d1 =>
    intro t u ht
    match t, ht with
    | 0, ht => simp at ht; subst ht; simp [Addr.add]
  case d2 => intro u hu; simp at hu; subst hu; rfl
  intro w7 hown7 hgrow7
  have hgs7 := hgrow7.size
  simp only [World.size_alloc] at hgs7
  have hk7 : ∀ k, k < w5.heap.size → w7.heap[k]? = w5.heap[k]? := fun k hk => by
    rw [hgrow7.block k (by simp; omega) (by simp; omega), Below.heap_alloc _ _ _ (by omega), hgrow6.block k hk (by simp)]
  have hs7 : Spans (w3.heap.size + 1) w7 g2 n (n + 1) qs2 Sx := hs5.kept (r := none) ⟨by rw [hgrow7.os]; exact hgrow6.os, by rw [hgrow7.tape]; exact hgrow6.tape, by rw [hgrow7.output]; exact hgrow6.output, by omega, fun k hk _ => hk7 k hk⟩ (by simp) (by simp)
  have hc7 : w7.cell? ⟨T2, 1, none⟩ = some (.slice (some ⟨g2, 0, none⟩) n (n + 1)) := by rw [World.cell?_of_block (hk7 T2 hT2l)]; exact hc5
  go_wp2_with (at_builtin; (refine wpList_append_fits _ rfl (.tmp 54) (.tmp 58) 27 rfl w.heap.size 25 i0 1 Yba.underlying27 hi hz1 w5.heap.size 1 (n + 1) _ rfl hown7 ⟨g2, 0, none⟩ n (n + 1) (qs2.map ptr) rfl ?e0 ?e1 ?e2 (by omega) ?_))
  case e0 => simp [hs7.len]
  case e1 => exact hs7.own.cells rfl
  case e2 => intro u hu; obtain ⟨_, _, rfl⟩ := List.mem_map.1 hu; rfl
  intro w8 hown8 hgrow8
  have hgs8 := hgrow8.size
  have hk8 : ∀ k, k < w5.heap.size → w8.heap[k]? = w5.heap[k]? := fun k hk => by
    rw [hgrow8.block k (by omega) (by simp; omega), hk7 k hk]
  have hs8 : Spans (w3.heap.size + 1) w8 g2 n (n + 1) qs2 Sx := hs7.kept hgrow8 (by simp; omega) (fun q hq => by have := hqT2 q hq; simp; omega)
  have hc8 : w8.cell? ⟨T2, 1, none⟩ = some (.slice (some ⟨g2, 0, none⟩) n (n + 1)) := by rw [World.cell?_of_block (hk8 T2 hT2l)]; exact hc5
  have hf8 : w8.frozen? ⟨T2, 1, none⟩ = false := frozen_of_row _ _ _ _ _ ((hk8 T2 hT2l).trans HT2.out)
  have hsp := front_spans (B := w.heap.size) ((hk8 w3.heap.size (by omega)).trans HF5.out) rfl hsz3 hs8 hown8 (by omega) (fun q hq => by have := hqT2 q hq; omega)
  have hsp9 := hsp.kept (grownBy_setCell w8 ⟨T2, 1, none⟩ (.slice (some ⟨w5.heap.size, 0, none⟩) (1 + n) (n + 1))) (by simp; omega) (fun q hq => by
    rcases List.mem_cons.1 hq with e | h
    · simp; omega
    · have := hqT2 q h; simp; omega)
  have hc9 : (w8.setCell ⟨T2, 1, none⟩ (.slice (some ⟨w5.heap.size, 0, none⟩) (1 + n) (n + 1))).cell? ⟨T2, 1, none⟩ = some (.slice (some ⟨w5.heap.size, 0, none⟩) (1 + n) (n + 1)) := World.cell?_setCell_same _ _ _ hc8
  have hnx9 : Below w.heap.size w (w8.setCell ⟨T2, 1, none⟩ (.slice (some ⟨w5.heap.size, 0, none⟩) (1 + n) (n + 1))) := by
    refine Below.setCell ?_ (by show w.heap.size ≤ T2; omega) _
    exact hnx5'.trans ⟨hgrow8.os.trans (hgrow7.os.trans hgrow6.os), hgrow8.tape.trans (hgrow7.tape.trans hgrow6.tape), hgrow8.output.trans (hgrow7.output.trans hgrow6.output), by omega, fun k hk => hk8 k (by have := hnx5'.size; omega)⟩
  clear hown8 hgrow8 hs8 hsp hown7 hgrow7 hs7 hc7 hown6 hgrow6 hk7 hk8 HT2 HF5 hs5
  go_wp2_with fail
  refine (root_hit _ _ T2 w5.heap.size (1 + n) (n + 1) _ _ (by omega) hc9 hsp9 0 w3.heap.size rfl empty_isEmpty (by simp)).mono ?_
  rintro e w9x ⟨rfl, rfl⟩
  go_wp2
  go_ret
  exact ⟨rfl, hnx9⟩
/-- No root: the appended span becomes the root. -/
theorem append_miss (w : World) (ao : Option Addr) (n c : Nat) (Sx : Nat → ByteArray) (hn : n ≤ 1024) (h : IsStrs w ao n Sx)
    (hb : ∀ i, i < n → (Sx i).toList.isEmpty = false) :
    Calls Yba.prog 4 #[.slice ao n c] w fun e w' => e = .returned (.bool true) ∧ Below w.heap.size w w' := by
  have hes := eql_same
  have hns := neq_same
  obtain ⟨i0, hi, hz0, hz1, hz2⟩ := info_parts Yba.info25
  go_enter Yba.func4, Yba.ntmps4
  go_wp2_with fail
  refine (build_any w ao n c Sx hn h).mono ?_
  rintro e w1 ⟨T, g, qs, rfl, hT, hT1, hgT, hqT, hs, hnx⟩
  have hc1 : w1.cell? ⟨T, 1, none⟩ = some (.slice (some ⟨g, 0, none⟩) n (n + 1)) := by rw [cell_of_row _ _ _ _ _ _ hT]; rfl
  have hTl : T < w1.heap.size := (Array.getElem?_eq_some_iff.1 hT).1
  have HT : Hid (w1.heap[T]? = some (.cells #[.string ⟨#[116]⟩, .slice (some ⟨g, 0, none⟩) n (n + 1), .bool false] 29 (0, 0))) := hT
  clear hT
  go_wp2_with fail
  refine (root_miss _ w1 T g n (n + 1) qs Sx (by omega) hc1 hs hb).mono ?_
  rintro e w2 ⟨rfl, rfl⟩
  go_wp2_with (at_builtin; (refine wpList_append_fits _ rfl (.tmp 23) (.tmp 25) 27 rfl w.heap.size 25 i0 1 Yba.underlying27 hi hz1 g n (n + 1) _ rfl ((hs.own.alloc _).alloc _) ⟨w1.heap.size + 1, 0, none⟩ 1 1 [.pointer (some ⟨w1.heap.size, 0, none⟩)] rfl rfl ?c1 ?c2 (by omega) ?_))
  case c1 =>
    intro t u ht
    match t, ht with
    | 0, ht => simp at ht; subst ht; simp [Addr.add]
  case c2 => intro u hu; simp at hu; subst hu; rfl
  intro w2 hown2 hgrow2
  have hgs := hgrow2.size
  simp only [World.size_alloc] at hgs
  have hT2 : w2.heap[T]? = w1.heap[T]? := by
    rw [hgrow2.block T (by simp; omega) (by simp; omega), Below.heap_alloc _ _ _ (by simp; omega), Below.heap_alloc _ _ _ hTl]
  have hc2 : w2.cell? ⟨T, 1, none⟩ = some (.slice (some ⟨g, 0, none⟩) n (n + 1)) := by rw [cell_of_row _ _ _ _ _ _ (hT2.trans HT.out)]; rfl
  have hf2 : w2.frozen? ⟨T, 1, none⟩ = false := frozen_of_row _ _ _ _ _ (hT2.trans HT.out)
  have hs2 := (hs.congr (Sy := fun i => if i = n then ByteArray.empty else Sx i) (fun i hi => by simp; omega)).push _ ByteArray.empty rfl _ hnx.size (by simp) hown2 hgrow2
  have hnx2 : Below w.heap.size w w2 := ((hnx.alloc hnx.size _).alloc (by have := hnx.size; simp; omega) _).grown hgrow2 (by have := hnx.size; simp; omega) (fun k hk => by cases hk; exact (hs.own.lt _ rfl).1)
  clear hown2 hgrow2 hT2
  have hq2 : ∀ q ∈ qs ++ [w1.heap.size], q ≠ T := by
    intro q hq
    rcases List.mem_append.1 hq with h | h
    · have := hqT q h; omega
    · simp at h; omega
  have hs3 := hs2.kept (grownBy_setCell w2 ⟨T, 1, none⟩ (.slice (some ⟨g, 0, none⟩) (n + 1) (n + 1))) (by simp; omega) (fun q hq => by simpa using hq2 q hq)
  have hnx3 : Below w.heap.size w (w2.setCell ⟨T, 1, none⟩ (.slice (some ⟨g, 0, none⟩) (n + 1) (n + 1))) := hnx2.setCell (by exact hT1) _
  have hc3 : (w2.setCell ⟨T, 1, none⟩ (.slice (some ⟨g, 0, none⟩) (n + 1) (n + 1))).cell? ⟨T, 1, none⟩ = some (.slice (some ⟨g, 0, none⟩) (n + 1) (n + 1)) := by
    exact World.cell?_setCell_same _ _ _ hc2
  clear hs2 hnx2
  go_wp2_with fail
  refine (root_hit _ _ T g (n + 1) (n + 1) _ _ (by omega) hc3 hs3 n w1.heap.size ?_ ?_ ?_).mono ?_
  · have := hs.len; simp [← this]
  · simp
  · intro i hi; simpa [show i ≠ n by omega] using hb i hi
  rintro e w3x ⟨rfl, rfl⟩
  obtain ⟨w3, hw3⟩ : ∃ w3, w3 = w2.setCell ⟨T, 1, none⟩ (.slice (some ⟨g, 0, none⟩) (n + 1) (n + 1)) := ⟨_, rfl⟩
  rw [← hw3] at hnx3 ⊢
  clear hw3 hs3 hc3 hc2 hf2 hq2 hs hnx hc1 HT
  go_wp2_with fail
  have hsz3 := hnx3.size
  have hnx4 : ∀ o, Below w.heap.size w (w3.alloc o) := fun o => hnx3.alloc hnx3.size o
  refine (build_any _ ao n c Sx hn (h.later (hnx4 _))).mono ?_
  rintro e w5 ⟨T2, g2, qs2, rfl, hT2, hT21, hgT2, hqT2, hs5, hnx5⟩
  have hF5 := (hnx5.block w3.heap.size (by simp)).trans (heap_alloc_new _ _)
  have hnx5' := (hnx4 _).trans (hnx5.mono (by simp; omega))
  simp only [World.size_alloc] at hT21 hs5 hnx5
  have hT2l : T2 < w5.heap.size := (Array.getElem?_eq_some_iff.1 hT2).1
  have hc5 : w5.cell? ⟨T2, 1, none⟩ = some (.slice (some ⟨g2, 0, none⟩) n (n + 1)) := by rw [cell_of_row _ _ _ _ _ _ hT2]; rfl
  have HT2 : Hid (w5.heap[T2]? = some (.cells #[.string ⟨#[116]⟩, .slice (some ⟨g2, 0, none⟩) n (n + 1), .bool false] 29 (0, 0))) := hT2
  have HF5 := show Hid _ from hF5
  clear hT2 hF5
  go_wp2_with (at_make; refine wpList_make_own _ rfl _ _ 27 rfl w.heap.size 25 i0 (.pointer none) 1 Yba.underlying27 hi hz0 hz1 _ _ _ (n + 1) rfl rfl (by omega) ?b2 ?b3 ?b4 ?_)
  case b2 => rw [hz2]; omega
  case b3 => unfold maxLen; omega
  case b4 => exact hnx5'.size
  intro w6 hown6 hgrow6
  have hgs6 := hgrow6.size
  go_wp2_with (at_builtin; (refine wpList_append_fits _ rfl (.tmp 50) (.tmp 52) 27 rfl w.heap.size 25 i0 1 Yba.underlying27 hi hz1 w5.heap.size 0 (n + 1) _ rfl (hown6.alloc _) ⟨w6.heap.size, 0, none⟩ 1 1 [.pointer (some ⟨w3.heap.size, 0, none⟩)] rfl rfl ?d1 ?d2 (by omega) ?_))
  case d1 =>
    intro t u ht
    match t, ht with
    | 0, ht => simp at ht; subst ht; simp [Addr.add]
  case d2 => intro u hu; simp at hu; subst hu; rfl
  intro w7 hown7 hgrow7
  have hgs7 := hgrow7.size
  simp only [World.size_alloc] at hgs7
  have hk7 : ∀ k, k < w5.heap.size → w7.heap[k]? = w5.heap[k]? := fun k hk => by
    rw [hgrow7.block k (by simp; omega) (by simp; omega), Below.heap_alloc _ _ _ (by omega), hgrow6.block k hk (by simp)]
  have hs7 : Spans (w3.heap.size + 1) w7 g2 n (n + 1) qs2 Sx := hs5.kept (r := none) ⟨by rw [hgrow7.os]; exact hgrow6.os, by rw [hgrow7.tape]; exact hgrow6.tape, by rw [hgrow7.output]; exact hgrow6.output, by omega, fun k hk _ => hk7 k hk⟩ (by simp) (by simp)
  have hc7 : w7.cell? ⟨T2, 1, none⟩ = some (.slice (some ⟨g2, 0, none⟩) n (n + 1)) := by rw [World.cell?_of_block (hk7 T2 hT2l)]; exact hc5
  go_wp2_with (at_builtin; (refine wpList_append_fits _ rfl (.tmp 54) (.tmp 58) 27 rfl w.heap.size 25 i0 1 Yba.underlying27 hi hz1 w5.heap.size 1 (n + 1) _ rfl hown7 ⟨g2, 0, none⟩ n (n + 1) (qs2.map ptr) rfl ?e0 ?e1 ?e2 (by omega) ?_))
  case e0 => simp [hs7.len]
  case e1 => exact hs7.own.cells rfl
  case e2 => intro u hu; obtain ⟨_, _, rfl⟩ := List.mem_map.1 hu; rfl
  intro w8 hown8 hgrow8
  have hgs8 := hgrow8.size
  have hk8 : ∀ k, k < w5.heap.size → w8.heap[k]? = w5.heap[k]? := fun k hk => by
    rw [hgrow8.block k (by omega) (by simp; omega), hk7 k hk]
  have hs8 : Spans (w3.heap.size + 1) w8 g2 n (n + 1) qs2 Sx := hs7.kept hgrow8 (by simp; omega) (fun q hq => by have := hqT2 q hq; simp; omega)
  have hc8 : w8.cell? ⟨T2, 1, none⟩ = some (.slice (some ⟨g2, 0, none⟩) n (n + 1)) := by rw [World.cell?_of_block (hk8 T2 hT2l)]; exact hc5
  have hf8 : w8.frozen? ⟨T2, 1, none⟩ = false := frozen_of_row _ _ _ _ _ ((hk8 T2 hT2l).trans HT2.out)
  have hsp := front_spans (B := w.heap.size) ((hk8 w3.heap.size (by omega)).trans HF5.out) rfl hsz3 hs8 hown8 (by omega) (fun q hq => by have := hqT2 q hq; omega)
  have hsp9 := hsp.kept (grownBy_setCell w8 ⟨T2, 1, none⟩ (.slice (some ⟨w5.heap.size, 0, none⟩) (1 + n) (n + 1))) (by simp; omega) (fun q hq => by
    rcases List.mem_cons.1 hq with e | h
    · simp; omega
    · have := hqT2 q h; simp; omega)
  have hc9 : (w8.setCell ⟨T2, 1, none⟩ (.slice (some ⟨w5.heap.size, 0, none⟩) (1 + n) (n + 1))).cell? ⟨T2, 1, none⟩ = some (.slice (some ⟨w5.heap.size, 0, none⟩) (1 + n) (n + 1)) := World.cell?_setCell_same _ _ _ hc8
  have hnx9 : Below w.heap.size w (w8.setCell ⟨T2, 1, none⟩ (.slice (some ⟨w5.heap.size, 0, none⟩) (1 + n) (n + 1))) := by
    refine Below.setCell ?_ (by show w.heap.size ≤ T2; omega) _
    exact hnx5'.trans ⟨hgrow8.os.trans (hgrow7.os.trans hgrow6.os), hgrow8.tape.trans (hgrow7.tape.trans hgrow6.tape), hgrow8.output.trans (hgrow7.output.trans hgrow6.output), by omega, fun k hk => hk8 k (by have := hnx5'.size; omega)⟩
  clear hown8 hgrow8 hs8 hsp hown7 hgrow7 hs7 hc7 hown6 hgrow6 hk7 hk8 HT2 HF5 hs5
  go_wp2_with fail
  refine (root_hit _ _ T2 w5.heap.size (1 + n) (n + 1) _ _ (by omega) hc9 hsp9 0 w3.heap.size rfl empty_isEmpty (by simp)).mono ?_
  rintro e w9x ⟨rfl, rfl⟩
  go_wp2
  go_ret
  exact ⟨rfl, hnx9⟩
/-- THE WALK: for every slice of strings the law answers true. -/
theorem append_any (w : World) (ao : Option Addr) (n c : Nat) (Sx : Nat → ByteArray) (hm : n ≤ maxLen) (h : IsStrs w ao n Sx) :
    Calls Yba.prog 4 #[.slice ao n c] w fun e w' => e = .returned (.bool true) ∧ Below w.heap.size w w' := by
  by_cases hn : n ≤ 1024
  · rcases first_empty (fun i => (Sx i).toList.isEmpty) n with ⟨j, hj, he, hb⟩ | hb
    · exact append_hit w ao n c Sx hn h j hj he hb
    · exact append_miss w ao n c Sx hn h hb
  · exact append_long w ao n c hm hn
end Go.Proofs.Ybulkwvi
