import Derived.Test.YbulkwvwFmtAdd
import Derived.Maps.OwnSet
import Derived.Maps.OwnOps
namespace Go.Proofs.YbulkwvwFmt
open Go.RowKit Go.Extern.Stop Go.Stop Go.Extern Go.Maps Go.WideMaps

theorem law9 : Keyed Ybaf.prog 9 := string_keyed Ybaf.underlying9
theorem zero3 (w : World) : (zeroValue 3).run Ybaf.prog w = .ok (.int .i64 0) w := by kernel_rfl

def kl (s : ByteArray) : Lit := .string s.data.toList

theorem look_found {w : World} {mb k : Nat} {D : DataW Unit} (h : w.ownsMap Ybaf.prog 9 (plainElem Ybaf.prog 3) mb k D) (s : ByteArray) (hs : s.size ≤ maxLen) (j : Int) (h1 : Maps.has D (kl s) = true) (h2 : D.atKey (kl s) (.lit (.int .i64 0)) = .lit (.int .i64 j)) :
    (Instr.lookup 36 (.map (some mb)) (.string s) true).run Ybaf.prog w = .ok (.tuple #[.int .i64 j, .bool true]) w := by
  obtain ⟨v, ps, hr, hv⟩ := h.look_ok law9 Ybaf.underlying36 (zero3 w) (plainElem_int Ybaf.underlying3 (by decide)) (keyOf_string_mk Ybaf.underlying9 hs)
  obtain ⟨a, rfl, ha, _⟩ := plainElem_int_inv Ybaf.underlying3 hv
  rw [hr]
  have e1 := congrArg Prod.fst ha
  simp only [kl] at h1 h2
  rw [h2] at e1
  simp only [DataW.lit.injEq, Lit.int.injEq, true_and] at e1
  rw [h1, e1]

theorem look_missing {w : World} {mb k : Nat} {D : DataW Unit} (h : w.ownsMap Ybaf.prog 9 (plainElem Ybaf.prog 3) mb k D) (s : ByteArray) (hs : s.size ≤ maxLen) (h1 : Maps.has D (kl s) = false) :
    (Instr.lookup 36 (.map (some mb)) (.string s) true).run Ybaf.prog w = .ok (.tuple #[.int .i64 0, .bool false]) w := by
  obtain ⟨v, ps, hr, hv⟩ := h.look_ok law9 Ybaf.underlying36 (zero3 w) (plainElem_int Ybaf.underlying3 (by decide)) (keyOf_string_mk Ybaf.underlying9 hs)
  obtain ⟨a, rfl, ha, _⟩ := plainElem_int_inv Ybaf.underlying3 hv
  rw [hr]
  have e1 := congrArg Prod.fst ha
  simp only [kl] at h1
  rw [atKey_of_not_has h1] at e1
  simp only [DataW.lit.injEq, Lit.int.injEq, true_and] at e1
  rw [h1, ← e1]

/-- addAt behind three new blocks, the last the variadic slice's. -/
theorem addAt_here (f : ByteArray) (hpf : FmtStop.printed? f 2 = some [(0, 115, false), (1, 115, false)]) (B : Nat) (fb : Nat) (file s0 s1 : ByteArray) (line col : Int) (w : World) (o1 o2 : Obj) (hB : B ≤ fb) (hBw : B ≤ w.heap.size)
    (hf : w.heap[fb]? = some (.cells #[.string file, .slice none 0 0] 42 (0, 0))) :
    Calls Ybaf.prog 6 #[.pointer (some ⟨fb, 0, none⟩), .agg #[.int .i64 line, .int .i64 col], .string f, .slice (some ⟨w.heap.size + 1 + 1, 0, none⟩) 2 2] (((w.alloc o1).alloc o2).alloc (.cells #[.iface 9 (.string s0), .iface 9 (.string s1)] 20)).drew
      fun e w' => e = .returned (.tuple #[]) ∧ Faulted w' fb file line col ∧ Below B w w' ∧ (∀ k, k < w.heap.size → k ≠ fb → w'.heap[k]? = w.heap[k]?) := by
  have hbf : fb < w.heap.size := (Array.getElem?_eq_some_iff.1 hf).1
  have hk : ∀ k, k < w.heap.size → (((w.alloc o1).alloc o2).alloc (.cells #[.iface 9 (.string s0), .iface 9 (.string s1)] 20)).drew.heap[k]? = w.heap[k]? := fun k hk => by
    show (((w.alloc o1).alloc o2).alloc (.cells #[.iface 9 (.string s0), .iface 9 (.string s1)] 20)).heap[k]? = _
    rw [Below.heap_alloc _ _ _ (by simp; omega), Below.heap_alloc _ _ _ (by simp; omega), Below.heap_alloc _ _ _ hk]
  refine (addAt_any f hpf B fb (w.heap.size + 1 + 1) file s0 s1 line col _ hB (by simp; omega) (by simp) ((hk fb hbf).trans hf) (by rw [World.cell?_drew, World.cell?_alloc_at _ _ _ _ (by simp)]; rfl) (by rw [World.cell?_drew, World.cell?_alloc_at _ _ _ _ (by simp)]; rfl)).mono ?_
  rintro e w' ⟨rfl, h1, h2, h3⟩
  refine ⟨rfl, h1, ((((Below.refl B w).alloc hBw _).alloc (by simp; omega) _).alloc (by simp; omega) _).drew.trans h2, fun k hkk hne => ?_⟩
  rw [h3 k (by simp; omega) hne]
  exact hk k hkk

end Go.Proofs.YbulkwvwFmt
