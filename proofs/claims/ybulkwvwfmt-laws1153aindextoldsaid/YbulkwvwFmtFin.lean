import Derived.Test.YbulkwvwFmtParts
import Derived.Test.YbulkwvwFmtLenOk
import Derived.Test.YbulkwvwFmtLenBad
import Derived.Test.YbulkwvwFmtLenMiss
namespace Go.Proofs.YbulkwvwFmt
open Go.RowKit Go.Extern.Stop Go.Stop Go.Extern Go.Maps Go.WideMaps

theorem Idx.lookHit {w : World} {mb k : Nat} {Sx : Nat → ByteArray} {D : DataW Unit} (h : Idx w mb k Sx D) (arg : ByteArray) (hsz : arg.size ≤ maxLen) {j : Nat} (hj : j < k) (he : Sx j = arg) (hf : ∀ i, i < j → Sx i ≠ arg) (w' : World) (hw : w'.heap[mb]? = w.heap[mb]?) :
    (Instr.lookup 36 (.map (some mb)) (.string arg) true).run Ybaf.prog w' = .ok (.tuple #[.int .i64 j, .bool true]) w' := by
  obtain ⟨h1, h2⟩ := h.hit arg j hj he hf
  obtain ⟨es, clock, hh, r⟩ := h.own
  exact look_found (k := k) (D := D) ⟨es, clock, hw.trans hh, r⟩ arg hsz j h1 h2

theorem Idx.lookMiss {w : World} {mb k : Nat} {Sx : Nat → ByteArray} {D : DataW Unit} (h : Idx w mb k Sx D) (arg : ByteArray) (hsz : arg.size ≤ maxLen) (hf : ∀ i, i < k → Sx i ≠ arg) (w' : World) (hw : w'.heap[mb]? = w.heap[mb]?) :
    (Instr.lookup 36 (.map (some mb)) (.string arg) true).run Ybaf.prog w' = .ok (.tuple #[.int .i64 0, .bool false]) w' := by
  have h1 := h.miss arg hf
  obtain ⟨es, clock, hh, r⟩ := h.own
  exact look_missing (k := k) (D := D) ⟨es, clock, hw.trans hh, r⟩ arg hsz h1

/-- Four new blocks. -/
theorem old4 (w : World) (o1 o2 o3 o4 : Obj) (k : Nat) (hk : k < w.heap.size) : ((((w.alloc o1).alloc o2).alloc o3).alloc o4).heap[k]? = w.heap[k]? := by
  rw [Below.heap_alloc _ _ _ (by simp; omega), Below.heap_alloc _ _ _ (by simp; omega), Below.heap_alloc _ _ _ (by simp; omega), Below.heap_alloc _ _ _ hk]
theorem first4 (w : World) (o1 o2 o3 o4 : Obj) : ((((w.alloc o1).alloc o2).alloc o3).alloc o4).heap[w.heap.size]? = some o1 := by
  rw [Below.heap_alloc _ _ _ (by simp; omega), Below.heap_alloc _ _ _ (by simp; omega), Below.heap_alloc _ _ _ (by simp)]
  exact heap_alloc_new _ _
theorem third4 (w : World) (o1 o2 o3 o4 : Obj) : ((((w.alloc o1).alloc o2).alloc o3).alloc o4).heap[w.heap.size + 1 + 1]? = some o3 := by
  rw [Below.heap_alloc _ _ _ (by simp)]
  have h := heap_alloc_new ((w.alloc o1).alloc o2) o3
  simp only [World.size_alloc] at h
  exact h
theorem below4 {w0 w : World} (h : Below w0.heap.size w0 w) (o1 o2 o3 o4 : Obj) : Below w0.heap.size w0 ((((w.alloc o1).alloc o2).alloc o3).alloc o4) := by
  have := h.size
  exact (((h.alloc this _).alloc (by simp; omega) _).alloc (by simp; omega) _).alloc (by simp; omega) _

section
variable (w wr : World) (mb ab n j : Nat) (K : Nat → Bool) (Sx : Nat → ByteArray) (D : DataW Unit) (arg : ByteArray) (line col : Int)

theorem fin_miss (o2 o4 : Obj) (rm : Value) (hbel : Below w.heap.size w wr) (hI : Idx wr mb n Sx D) (hsz : arg.size ≤ maxLen) (hno : ∀ i, i < n → Sx i ≠ arg) :
    Calls Ybaf.prog 5 #[.pointer (some ⟨wr.heap.size + 1 + 1, 0, none⟩), .string arg, .agg #[.int .i64 line, .int .i64 col], .agg #[.int .i64 3, .string ⟨#[99, 97, 108, 108]⟩, .int .i64 0, .int .i64 0, .bool false, .string ⟨#[]⟩, .int .i64 0, .int .i64 0, .slice none 0 0, .slice (some ⟨ab, 0, none⟩) n n, .string ⟨#[]⟩, .int .i64 0, .int .i64 0], .map (some mb)]
      ((((wr.alloc (.cells #[.string ⟨#[122, 122, 102, 105, 108, 101]⟩, .slice none 0 0] 42)).alloc o2).alloc (.cells #[.pointer (some ⟨wr.heap.size, 0, none⟩), rm] 45)).alloc o4)
      fun e w' => e = .returned (.int .i64 0) ∧ Faulted w' wr.heap.size ⟨#[122, 122, 102, 105, 108, 101]⟩ line col ∧ Below w.heap.size w w' ∧ w'.cell? ⟨wr.heap.size + 1 + 1, 0, none⟩ = some (.pointer (some ⟨wr.heap.size, 0, none⟩)) := by
  have hs := hbel.size
  have hmb := hI.own.lt
  have h3 := third4 wr (.cells #[.string ⟨#[122, 122, 102, 105, 108, 101]⟩, .slice none 0 0] 42) o2 (.cells #[.pointer (some ⟨wr.heap.size, 0, none⟩), rm] 45) o4
  refine (len_miss (wr.heap.size + 1 + 1) wr.heap.size mb arg ⟨#[122, 122, 102, 105, 108, 101]⟩ line col ab n _ (by rw [cell_of_row _ _ _ _ _ _ h3]; rfl) (by simp) w.heap.size hs (by simp; omega) (first4 _ _ _ _ _) (fun w' hw => hI.lookMiss arg hsz hno w' (hw.trans (old4 _ _ _ _ _ _ hmb))) (by simp; omega)).mono ?_
  rintro e w' ⟨rfl, h1, h2, h4⟩
  refine ⟨rfl, h1, (below4 hbel _ _ _ _).trans h2, ?_⟩
  rw [World.cell?_of_block (h4 _ (by simp) (by show wr.heap.size + 1 + 1 ≠ wr.heap.size; omega)), cell_of_row _ _ _ _ _ _ h3]; rfl

theorem Decls.later {w w' : World} {ab n k : Nat} {K : Nat → Bool} (h : Decls w ab n k K) (hw : w'.heap[ab]? = w.heap[ab]?) : Decls w' ab n k K := by
  obtain ⟨cur, a, b⟩ := h.row
  exact ⟨cur, hw.trans a, b⟩

theorem Decls.lt {w : World} {ab n k : Nat} {K : Nat → Bool} (h : Decls w ab n k K) : ab < w.heap.size := by
  obtain ⟨cur, a, b⟩ := h.row
  exact (Array.getElem?_eq_some_iff.1 a).1

theorem Decls.tn {w : World} {ab n k : Nat} {K : Nat → Bool} (h : Decls w ab n k K) {j : Nat} (hj : j < k) : w.cell? ⟨ab, j * 7 + 3, none⟩ = some (.string (tnOf (K j))) := by
  obtain ⟨cur, a, _, b⟩ := h.row
  rw [cell_of_row _ _ _ _ _ _ a]
  exact b j hj

theorem fin_bad (o2 o4 : Obj) (rm : Value) (hbel : Below w.heap.size w wr) (hI : Idx wr mb n Sx D) (hd : Decls wr ab n n K) (hn : n ≤ 1024) (hsz : arg.size ≤ maxLen) (hj : j < n) (he : Sx j = arg) (hno : ∀ i, i < j → Sx i ≠ arg) (hK : K j = false) :
    Calls Ybaf.prog 5 #[.pointer (some ⟨wr.heap.size + 1 + 1, 0, none⟩), .string arg, .agg #[.int .i64 line, .int .i64 col], .agg #[.int .i64 3, .string ⟨#[99, 97, 108, 108]⟩, .int .i64 0, .int .i64 0, .bool false, .string ⟨#[]⟩, .int .i64 0, .int .i64 0, .slice none 0 0, .slice (some ⟨ab, 0, none⟩) n n, .string ⟨#[]⟩, .int .i64 0, .int .i64 0], .map (some mb)]
      ((((wr.alloc (.cells #[.string ⟨#[122, 122, 102, 105, 108, 101]⟩, .slice none 0 0] 42)).alloc o2).alloc (.cells #[.pointer (some ⟨wr.heap.size, 0, none⟩), rm] 45)).alloc o4)
      fun e w' => e = .returned (.int .i64 j) ∧ Faulted w' wr.heap.size ⟨#[122, 122, 102, 105, 108, 101]⟩ line col ∧ Below w.heap.size w w' ∧ w'.cell? ⟨wr.heap.size + 1 + 1, 0, none⟩ = some (.pointer (some ⟨wr.heap.size, 0, none⟩)) := by
  have hs := hbel.size
  have hmb := hI.own.lt
  have hab := hd.lt
  have h3 := third4 wr (.cells #[.string ⟨#[122, 122, 102, 105, 108, 101]⟩, .slice none 0 0] 42) o2 (.cells #[.pointer (some ⟨wr.heap.size, 0, none⟩), rm] 45) o4
  refine (len_bad (wr.heap.size + 1 + 1) wr.heap.size mb arg ⟨#[122, 122, 102, 105, 108, 101]⟩ line col ab n j hj hn _ (by simp; omega) (by rw [(hd.later (old4 _ _ _ _ _ _ hab)).tn hj, hK]; rfl) (by rw [cell_of_row _ _ _ _ _ _ h3]; rfl) (by simp) w.heap.size hs (by simp; omega) (first4 _ _ _ _ _) (fun w' hw => hI.lookHit arg hsz hj he hno w' (hw.trans (old4 _ _ _ _ _ _ hmb))) (by simp; omega)).mono ?_
  rintro e w' ⟨rfl, h1, h2, h4⟩
  refine ⟨rfl, h1, (below4 hbel _ _ _ _).trans h2, ?_⟩
  rw [World.cell?_of_block (h4 _ (by simp) (by show wr.heap.size + 1 + 1 ≠ wr.heap.size; omega)), cell_of_row _ _ _ _ _ _ h3]; rfl

theorem fin_ok (o2 o4 : Obj) (rm : Value) (hbel : Below w.heap.size w wr) (hI : Idx wr mb n Sx D) (hd : Decls wr ab n n K) (hn : n ≤ 1024) (hsz : arg.size ≤ maxLen) (hj : j < n) (he : Sx j = arg) (hno : ∀ i, i < j → Sx i ≠ arg) (hK : K j = true) :
    Calls Ybaf.prog 5 #[.pointer (some ⟨wr.heap.size + 1 + 1, 0, none⟩), .string arg, .agg #[.int .i64 line, .int .i64 col], .agg #[.int .i64 3, .string ⟨#[99, 97, 108, 108]⟩, .int .i64 0, .int .i64 0, .bool false, .string ⟨#[]⟩, .int .i64 0, .int .i64 0, .slice none 0 0, .slice (some ⟨ab, 0, none⟩) n n, .string ⟨#[]⟩, .int .i64 0, .int .i64 0], .map (some mb)]
      ((((wr.alloc (.cells #[.string ⟨#[122, 122, 102, 105, 108, 101]⟩, .slice none 0 0] 42)).alloc o2).alloc (.cells #[.pointer (some ⟨wr.heap.size, 0, none⟩), rm] 45)).alloc o4)
      fun e w' => e = .returned (.int .i64 j) ∧ Below w.heap.size w w' ∧ w'.cell? ⟨wr.heap.size + 1 + 1, 0, none⟩ = some (.pointer (some ⟨wr.heap.size, 0, none⟩)) ∧ w'.cell? ⟨wr.heap.size, 1, none⟩ = some (.slice none 0 0) := by
  have hs := hbel.size
  have hmb := hI.own.lt
  have hab := hd.lt
  have h3 := third4 wr (.cells #[.string ⟨#[122, 122, 102, 105, 108, 101]⟩, .slice none 0 0] 42) o2 (.cells #[.pointer (some ⟨wr.heap.size, 0, none⟩), rm] 45) o4
  have h1' := first4 wr (.cells #[.string ⟨#[122, 122, 102, 105, 108, 101]⟩, .slice none 0 0] 42) o2 (.cells #[.pointer (some ⟨wr.heap.size, 0, none⟩), rm] 45) o4
  refine (len_ok (wr.heap.size + 1 + 1) mb arg line col ab n j hj hn _ (by simp; omega) (by rw [(hd.later (old4 _ _ _ _ _ _ hab)).tn hj, hK]; rfl) (fun w' hw => hI.lookHit arg hsz hj he hno w' (hw.trans (old4 _ _ _ _ _ _ hmb))) (by simp; omega)).mono ?_
  rintro e w' ⟨rfl, h2⟩
  refine ⟨rfl, (below4 hbel _ _ _ _).trans (h2.mono (by simp; omega)), ?_, ?_⟩
  · rw [h2.cell (by simp), cell_of_row _ _ _ _ _ _ h3]; rfl
  · rw [h2.cell (by simp; omega), cell_of_row _ _ _ _ _ _ h1']; rfl
end
end Go.Proofs.YbulkwvwFmt
