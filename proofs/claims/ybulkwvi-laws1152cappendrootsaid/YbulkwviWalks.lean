import Derived.Test.YbulkwviRows
import Derived.WalkKit
import Derived.ProofKit
import Derived.OpenShut
import Derived.ShutString
import Derived.ChangeOld
import Derived.Below
import Derived.WalkSpells
import Derived.Deep.Strs
import Derived.LaidEqlPtr
namespace Go.Proofs.Ybulkwvi
open Go.RowKit

theorem Yba.info25 : (Yba.prog.info? 25).map (fun i => (i.zero, i.size, i.bytes)) = some (some (.pointer none), 1, 8) := by kernel_rfl

def ptr (q : Nat) : Value := .pointer (some ⟨q, 0, none⟩)

theorem ptr_def (q : Nat) : ptr q = .pointer (some ⟨q, 0, none⟩) := rfl

/-- n spans behind a slice of pointers that the call has made: block 'g' holds the pointers, 'qs' are the spans' blocks, each apart from the others; span i's parent is 'Sx i'. -/
structure Spans (B : Nat) (w : World) (g n cap : Nat) (qs : List Nat) (Sx : Nat → ByteArray) : Prop where
  len : qs.length = n
  own : w.ownsRow B 25 1 (.slice (some ⟨g, 0, none⟩) n cap) n (qs.map ptr)
  blocks : ∀ i q, qs[i]? = some q → ∃ cs : Array Value, w.heap[q]? = some (.cells cs 33 (0, 0)) ∧ cs[2]? = some (.string (Sx i)) ∧ B ≤ q ∧ q ≠ g
  nodup : qs.Nodup

theorem Spans.cells {B : Nat} {w : World} {g n cap : Nat} {qs : List Nat} {Sx : Nat → ByteArray} (h : Spans B w g n cap qs Sx) (i q : Nat) (hq : qs[i]? = some q) : w.cell? ⟨q, 2, none⟩ = some (.string (Sx i)) ∧ B ≤ q ∧ q < w.heap.size ∧ q ≠ g := by
  obtain ⟨cs, h1, h2, h3, h4⟩ := h.blocks i q hq
  exact ⟨by rw [cell_of_row _ _ _ _ _ _ h1]; exact h2, h3, (Array.getElem?_eq_some_iff.1 h1).1, h4⟩

theorem Spans.apart {B : Nat} {w : World} {g n cap : Nat} {qs : List Nat} {Sx : Nat → ByteArray} (h : Spans B w g n cap qs Sx) {i j p q : Nat} (hij : i ≠ j) (hp : qs[i]? = some p) (hq : qs[j]? = some q) : p ≠ q := by
  intro e
  subst e
  have hi := (List.getElem?_eq_some_iff.1 hp).1
  exact hij ((List.getElem?_inj hi h.nodup).1 (hp.trans hq.symm))

theorem Spans.ptrAt {B : Nat} {w : World} {g n cap : Nat} {qs : List Nat} {Sx : Nat → ByteArray} (h : Spans B w g n cap qs Sx) {i q : Nat} (hq : qs[i]? = some q) : w.cell? ⟨g, i, none⟩ = some (ptr q) := by
  have hl := (List.getElem?_eq_some_iff.1 hq).1
  rw [h.own.cellAt i (by have := h.len; omega)]
  simp [hq]

theorem Spans.get {B : Nat} {w : World} {g n cap : Nat} {qs : List Nat} {Sx : Nat → ByteArray} (h : Spans B w g n cap qs Sx) {i : Nat} (hi : i < n) : ∃ q, qs[i]? = some q :=
  ⟨qs[i]'(by rw [h.len]; exact hi), by simp [h.len, hi]⟩

/-- THE METHOD Root: the first span without a parent. -/
theorem root_hit (B : Nat) (w : World) (T g n cap : Nat) (qs : List Nat) (Sx : Nat → ByteArray) (hn : n ≤ 4096) (hT : w.cell? ⟨T, 1, none⟩ = some (.slice (some ⟨g, 0, none⟩) n cap)) (hs : Spans B w g n cap qs Sx)
    (j q : Nat) (hj : qs[j]? = some q) (he : (Sx j).toList.isEmpty = true) (hb : ∀ i, i < j → (Sx i).toList.isEmpty = false) :
    Calls Yba.prog 6 #[.pointer (some ⟨T, 0, none⟩)] w fun e w' => e = .returned (.pointer (some ⟨q, 0, none⟩)) ∧ w = w' := by
  have hjn : j < n := by have := (List.getElem?_eq_some_iff.1 hj).1; have := hs.len; omega
  go_enter Yba.func6, Yba.ntmps6
  go_wp2
  go_loop [10] (fun i => ∃ k : Nat, k ≤ j ∧ i = .int .i64 k) (fun i => n - (intOf i).toNat)
  case atStart => exact ⟨0, Nat.zero_le _, rfl⟩
  case round =>
    obtain ⟨k, hk, rfl⟩ := hrel
    have hkn : k < n := by omega
    by_cases hkj : k < j
    · obtain ⟨qk, hqk⟩ := hs.get (i := k) (by omega)
      have hp : w.cell? ⟨g, k, none⟩ = some (.pointer (some ⟨qk, 0, none⟩)) := hs.ptrAt hqk
      have hc := (hs.cells k qk hqk).1
      have hb' := hb k hkj
      clear hqk hj
      go_wp2
      go_round
      case rel => exact ⟨k + 1, by omega, by go_num⟩
      case measure => simp [intOf]; omega
    · obtain rfl : k = j := by omega
      have hp : w.cell? ⟨g, k, none⟩ = some (.pointer (some ⟨q, 0, none⟩)) := hs.ptrAt hj
      have hc := (hs.cells k q hj).1
      clear hj hb
      go_wp2
      go_ret
      exact ⟨rfl, rfl⟩

/-- No span is without a parent: nil. -/
theorem root_miss (B : Nat) (w : World) (T g n cap : Nat) (qs : List Nat) (Sx : Nat → ByteArray) (hn : n ≤ 4096) (hT : w.cell? ⟨T, 1, none⟩ = some (.slice (some ⟨g, 0, none⟩) n cap)) (hs : Spans B w g n cap qs Sx)
    (hb : ∀ i, i < n → (Sx i).toList.isEmpty = false) :
    Calls Yba.prog 6 #[.pointer (some ⟨T, 0, none⟩)] w fun e w' => e = .returned (.pointer none) ∧ w = w' := by
  go_enter Yba.func6, Yba.ntmps6
  go_wp2
  go_loop [10] (fun i => ∃ k : Nat, k ≤ n ∧ i = .int .i64 k) (fun i => n - (intOf i).toNat)
  case atStart => exact ⟨0, Nat.zero_le _, rfl⟩
  case round =>
    obtain ⟨k, hk, rfl⟩ := hrel
    by_cases hkn : k < n
    · obtain ⟨qk, hqk⟩ := hs.get (i := k) (by omega)
      have hp : w.cell? ⟨g, k, none⟩ = some (.pointer (some ⟨qk, 0, none⟩)) := hs.ptrAt hqk
      have hc := (hs.cells k qk hqk).1
      have hb' := hb k hkn
      clear hqk
      go_wp2
      go_round
      case rel => exact ⟨k + 1, by omega, by go_num⟩
      case measure => simp [intOf]; omega
    · go_wp2
      go_ret
      exact ⟨rfl, rfl⟩

/-- What one round of the builder does: a span is boxed, its pointer is appended within the capacity. -/
theorem Spans.push {B : Nat} {w w1 : World} {g n cap : Nat} {qs : List Nat} {Sx : Nat → ByteArray} (h : Spans B w g n cap qs Sx) (o1 : Array Value) (s : ByteArray) (ho : o1[2]? = some (.string s)) (o2 : Obj) (hB : B ≤ w.heap.size)
    (hS : s = Sx n)
    (hown : w1.ownsRow B 25 1 (.slice (some ⟨g, 0, none⟩) (n + 1) cap) (n + 1) (qs.map ptr ++ [ptr w.heap.size])) (hg : ((w.alloc (.cells o1 33)).alloc o2).grownBy w1 (some g)) :
    Spans B w1 g (n + 1) cap (qs ++ [w.heap.size]) Sx := by
  have hgl : g < w.heap.size := (h.own.lt g rfl).2
  refine ⟨by simp [h.len], by simpa using hown, ?_, ?_⟩
  · intro i q hq
    have hsz := hg.size
    simp at hsz
    by_cases hi : i < qs.length
    · rw [List.getElem?_append_left hi] at hq
      obtain ⟨cs, a, b, c, d⟩ := h.blocks i q hq
      have hlt := (Array.getElem?_eq_some_iff.1 a).1
      refine ⟨cs, ?_, b, c, d⟩
      rw [hg.block q (by simp; omega) (by simpa using d), Below.heap_alloc _ _ _ (by simp; omega), Below.heap_alloc _ _ _ hlt]
      exact a
    · have hi' := (List.getElem?_eq_some_iff.1 hq).1
      simp at hi'
      obtain rfl : i = qs.length := by omega
      simp at hq
      subst hq
      have hl := h.len
      subst hl
      refine ⟨o1, ?_, by rw [← hS]; exact ho, hB, by omega⟩
      rw [hg.block _ (by simp; omega) (by simp; omega), Below.heap_alloc _ _ _ (by simp)]
      exact heap_alloc_new _ _
  · rw [List.nodup_append]
    refine ⟨h.nodup, by simp, ?_⟩
    intro a ha b hb
    simp at hb
    subst hb
    obtain ⟨i, hi⟩ := List.getElem?_of_mem ha
    have := (h.cells i a hi).2.2.1
    omega

theorem Spans.alloc {B : Nat} {w : World} {g n cap : Nat} {qs : List Nat} {Sx : Nat → ByteArray} (h : Spans B w g n cap qs Sx) (o : Obj) : Spans B (w.alloc o) g n cap qs Sx := by
  refine ⟨h.len, h.own.alloc o, fun i q hq => ?_, h.nodup⟩
  obtain ⟨cs, a, b, c, d⟩ := h.blocks i q hq
  exact ⟨cs, by rw [Below.heap_alloc _ _ _ (Array.getElem?_eq_some_iff.1 a).1]; exact a, b, c, d⟩

/-- THE BUILDER over a slice that is not empty. -/
theorem build_some (w : World) (b off n c : Nat) (Sx : Nat → ByteArray) (hn : n ≤ 1024) (hbs : b < w.heap.size) (hc : ∀ i, i < n → w.cell? ⟨b, off + i, none⟩ = some (.string (Sx i))) :
    Calls Yba.prog 5 #[.slice (some ⟨b, off, none⟩) n c] w fun e w' => ∃ T g qs, e = .returned (.pointer (some ⟨T, 0, none⟩)) ∧ w'.heap[T]? = some (.cells #[.string ⟨#[116]⟩, .slice (some ⟨g, 0, none⟩) n (n + 1), .bool false] 29 (0, 0)) ∧ w.heap.size ≤ T ∧ g < T ∧ (∀ q ∈ qs, q < T) ∧
      Spans w.heap.size w' g n (n + 1) qs Sx ∧ Below w.heap.size w w' := by
  obtain ⟨i0, hi, hz0, hz1, hz2⟩ := info_parts Yba.info25
  go_enter Yba.func5, Yba.ntmps5
  go_wp2_with (at_make; refine wpList_make_own _ rfl _ _ 27 rfl w.heap.size 25 i0 (.pointer none) 1 Yba.underlying27 hi hz0 hz1 _ _ _ (n + 1) rfl rfl (by omega) ?b2 ?b3 (Nat.le_refl _) ?_)
  case b2 => rw [hz2]; omega
  case b3 => unfold maxLen; omega
  intro w0 hown0 hgrow0
  go_wp2
  go_loopw [3, 12] (fun v i wr => ∃ (k : Nat) (qs : List Nat), k ≤ n ∧ i = .int .i64 k ∧ v = .slice (some ⟨w.heap.size, 0, none⟩) k (n + 1) ∧ Spans w.heap.size wr w.heap.size k (n + 1) qs Sx ∧ Below w.heap.size w wr)
    (fun _ i _ => n - (intOf i).toNat)
  case atStart => exact ⟨0, [], Nat.zero_le _, rfl, rfl, ⟨rfl, hown0, by simp, by simp⟩, (Below.refl _ _).grown hgrow0 (Nat.le_refl _) (fun k h => by cases h)⟩
  case round =>
    obtain ⟨k, qs, hk, rfl, rfl, hs, hnx⟩ := hrel
    by_cases hkn : k < n
    · have hcx : wr.cell? ⟨b, off + k, none⟩ = some (.string (Sx k)) := (hnx.cell (by exact hbs)).trans (hc k hkn)
      go_wp2_with (at_builtin; refine wpList_append_fits _ rfl (.tmp 17) (.tmp 22) 27 rfl w.heap.size 25 i0 1 Yba.underlying27 hi hz1 w.heap.size k (n + 1) _ rfl ((hs.own.alloc _).alloc _) ⟨wr.heap.size + 1, 0, none⟩ 1 1 [.pointer (some ⟨wr.heap.size, 0, none⟩)] rfl rfl ?c1 ?c2 (by omega) ?_)
      case c1 =>
        intro t u ht
        match t, ht with
        | 0, ht => simp at ht; subst ht; simp [Addr.add]
      case c2 => intro u hu; simp at hu; subst hu; rfl
      intro w1 hown1 hgrow1
      have R := hs.push _ (Sx k) rfl _ hnx.size rfl hown1 hgrow1
      have R2 : Below w.heap.size w w1 := ((hnx.alloc hnx.size _).alloc (by have := hnx.size; simp; omega) _).grown hgrow1 (by have := hnx.size; simp; omega) (fun k hk => by cases hk; exact Nat.le_refl _)
      clear hown1 hgrow1 hcx hs hnx
      go_wp2
      go_roundw
      case rel => exact ⟨k + 1, _, by omega, by go_num, rfl, R, R2⟩
      case measure => simp [intOf]; omega
    · obtain rfl : k = n := by omega
      go_wp2
      go_ret
      refine ⟨wr.heap.size, w.heap.size, qs, rfl, heap_alloc_new _ _, hnx.size, (hs.own.lt _ rfl).2, fun q hq => ?_, hs.alloc _, hnx.alloc hnx.size _⟩
      obtain ⟨i, hi⟩ := List.getElem?_of_mem hq
      exact (hs.cells i q hi).2.2.1

/-- THE BUILDER over an empty slice (a nil one too): no span. -/
theorem build_none (w : World) (ao : Option Addr) (c : Nat) (Sx : Nat → ByteArray) :
    Calls Yba.prog 5 #[.slice ao 0 c] w fun e w' => ∃ T g qs, e = .returned (.pointer (some ⟨T, 0, none⟩)) ∧ w'.heap[T]? = some (.cells #[.string ⟨#[116]⟩, .slice (some ⟨g, 0, none⟩) 0 (0 + 1), .bool false] 29 (0, 0)) ∧ w.heap.size ≤ T ∧ g < T ∧ (∀ q ∈ qs, q < T) ∧
      Spans w.heap.size w' g 0 (0 + 1) qs Sx ∧ Below w.heap.size w w' := by
  obtain ⟨i0, hi, hz0, hz1, hz2⟩ := info_parts Yba.info25
  go_enter Yba.func5, Yba.ntmps5
  go_wp2_with (at_make; refine wpList_make_own _ rfl _ _ 27 rfl w.heap.size 25 i0 (.pointer none) 1 Yba.underlying27 hi hz0 hz1 _ _ _ (0 + 1) rfl rfl (by omega) ?b2 ?b3 (Nat.le_refl _) ?_)
  case b2 => rw [hz2]; omega
  case b3 => unfold maxLen; omega
  intro w0 hown0 hgrow0
  have hs : Spans w.heap.size w0 w.heap.size 0 (0 + 1) [] Sx := ⟨rfl, hown0, by simp, by simp⟩
  have hnx : Below w.heap.size w w0 := (Below.refl _ _).grown hgrow0 (Nat.le_refl _) (fun k h => by cases h)
  clear hown0 hgrow0
  go_wp2
  refine wp_loop_rounds 1 ?_
  rw [rounds_succ]
  go_wp2
  go_ret
  exact ⟨w0.heap.size, w.heap.size, [], rfl, heap_alloc_new _ _, hnx.size, (hs.own.lt _ rfl).2, by simp, hs.alloc _, hnx.alloc hnx.size _⟩

/-- What the walks are told of a slice of strings that came in. -/
def IsStrs (w : World) (ao : Option Addr) (n : Nat) (Sx : Nat → ByteArray) : Prop :=
  n = 0 ∨ ∃ b off, ao = some ⟨b, off, none⟩ ∧ b < w.heap.size ∧ ∀ i, i < n → w.cell? ⟨b, off + i, none⟩ = some (.string (Sx i))

theorem build_any (w : World) (ao : Option Addr) (n c : Nat) (Sx : Nat → ByteArray) (hn : n ≤ 1024) (h : IsStrs w ao n Sx) :
    Calls Yba.prog 5 #[.slice ao n c] w fun e w' => ∃ T g qs, e = .returned (.pointer (some ⟨T, 0, none⟩)) ∧ w'.heap[T]? = some (.cells #[.string ⟨#[116]⟩, .slice (some ⟨g, 0, none⟩) n (n + 1), .bool false] 29 (0, 0)) ∧ w.heap.size ≤ T ∧ g < T ∧ (∀ q ∈ qs, q < T) ∧
      Spans w.heap.size w' g n (n + 1) qs Sx ∧ Below w.heap.size w w' := by
  rcases h with rfl | ⟨b, off, rfl, hb, hc⟩
  · exact build_none w ao c Sx
  · exact build_some w b off n c Sx hn hb hc

theorem first_empty (E : Nat → Bool) (n : Nat) : (∃ j, j < n ∧ E j = true ∧ ∀ i, i < j → E i = false) ∨ ∀ i, i < n → E i = false := by
  induction n with
  | zero => exact .inr (by simp)
  | succ n ih =>
    rcases ih with ⟨j, h1, h2, h3⟩ | h
    · exact .inl ⟨j, by omega, h2, h3⟩
    · cases hE : E n with
      | true => exact .inl ⟨n, by omega, hE, h⟩
      | false =>
        refine .inr fun i hi => ?_
        by_cases e : i = n
        · subst e; exact hE
        · exact h i (by omega)

end Go.Proofs.Ybulkwvi
