import Derived.Test.YbulkwvwFmtKind
import Derived.Test.YbulkwvwFmtLen
namespace Go.Proofs.YbulkwvwFmt
open Go.RowKit Go.Extern.Stop Go.Stop Go.Extern Go.Maps Go.WideMaps

theorem Ybaf.info34 : (Ybaf.prog.info? 34).map (fun i => (i.zero, i.size, i.bytes)) = some (some (.agg #[.string ⟨#[]⟩, .int .i64 0, .int .i64 0, .string ⟨#[]⟩, .int .i64 0, .int .i64 0, .pointer none]), 7, 72) := by kernel_rfl

def tnOf (B : Bool) : ByteArray := if B then ⟨#[98, 117, 102, 102, 101, 114]⟩ else ⟨#[105, 110, 116, 51, 50]⟩

/-- The arguments' declarations: n of them, those below k filled in. -/
structure Decls (w : World) (ab n k : Nat) (K : Nat → Bool) : Prop where
  row : ∃ cur : Array Value, w.heap[ab]? = some (.cells cur 34 (0, 0)) ∧ cur.size = n * 7 ∧ ∀ j, j < k → cur[j * 7 + 3]? = some (.string (tnOf (K j)))

theorem decls_step {wr : World} {ab n k : Nat} {K : Nat → Bool} {cur : Array Value} (hcur : wr.heap[ab]? = some (.cells cur 34 (0, 0))) (hcs : cur.size = n * 7) (hct : ∀ j, j < k → cur[j * 7 + 3]? = some (.string (tnOf (K j)))) (hk : k < n) (x0 x1 x2 x4 x5 x6 : Value) (s : ByteArray) (hs : s = tnOf (K k)) :
    Decls (((((((wr.setCell ⟨ab, k * 7, none⟩ x0).setCell ⟨ab, k * 7 + 1, none⟩ x1).setCell ⟨ab, k * 7 + 2, none⟩ x2).setCell ⟨ab, k * 7 + 3, none⟩ (.string s)).setCell ⟨ab, k * 7 + 4, none⟩ x4).setCell ⟨ab, k * 7 + 5, none⟩ x5).setCell ⟨ab, k * 7 + 6, none⟩ x6) ab n (k + 1) K := by
  have h0 := heap_setCell_same _ _ (k * 7) _ _ x0 hcur
  have h1 := heap_setCell_same _ _ (k * 7 + 1) _ _ x1 h0
  have h2 := heap_setCell_same _ _ (k * 7 + 2) _ _ x2 h1
  have h3 := heap_setCell_same _ _ (k * 7 + 3) _ _ (.string s) h2
  have h4 := heap_setCell_same _ _ (k * 7 + 4) _ _ x4 h3
  have h5 := heap_setCell_same _ _ (k * 7 + 5) _ _ x5 h4
  have h6 := heap_setCell_same _ _ (k * 7 + 6) _ _ x6 h5
  refine ⟨_, h6, by simpa using hcs, fun j hj => ?_⟩
  simp only [Array.getElem?_setIfInBounds, Array.size_setIfInBounds]
  by_cases e : j = k
  · subst e
    rw [if_neg (by omega), if_neg (by omega), if_neg (by omega), if_pos rfl, if_pos (by omega), hs]
  · rw [if_neg (by omega), if_neg (by omega), if_neg (by omega), if_neg (by omega), if_neg (by omega), if_neg (by omega), if_neg (by omega)]
    exact hct j (by omega)

theorem wrap_small (x : Int) (h0 : 0 ≤ x) (h1 : x ≤ 2000) : wrap64 x = x := by
  unfold wrap64
  omega

theorem eq_true (s t : ByteArray) (h : s = t) : (s.toList == t.toList) = true := by subst h; simp
theorem eq_false (s t : ByteArray) (h : s ≠ t) : (s.toList == t.toList) = false := by
  rw [beq_eq_false_iff_ne]
  intro e
  rw [ByteArray.toList_eq, ByteArray.toList_eq] at e
  exact h (WideShapes.bytes_inj e)

theorem kl_ne {s t : ByteArray} (h : s ≠ t) : kl s ≠ kl t := by
  intro e
  simp only [kl, Lit.string.injEq] at e
  exact h (WideShapes.bytes_inj e)

/-- The first place of s among the first k, if there is one. -/
theorem first_at (Sx : Nat → ByteArray) (s : ByteArray) (k : Nat) : (∃ j, j < k ∧ Sx j = s ∧ ∀ i, i < j → Sx i ≠ s) ∨ ∀ i, i < k → Sx i ≠ s := by
  induction k with
  | zero => exact .inr (by omega)
  | succ k ih =>
    rcases ih with ⟨j, h1, h2, h3⟩ | h
    · exact .inl ⟨j, by omega, h2, h3⟩
    · by_cases e : Sx k = s
      · exact .inl ⟨k, by omega, e, h⟩
      · refine .inr fun i hi => ?_
        by_cases e2 : i = k
        · subst e2; exact e
        · exact h i (by omega)

/-- The index: each name of the first k at its first place. -/
structure Idx (w : World) (mb k : Nat) (Sx : Nat → ByteArray) (D : DataW Unit) : Prop where
  own : w.ownsMap Ybaf.prog 9 (plainElem Ybaf.prog 3) mb k D
  miss : ∀ s, (∀ i, i < k → Sx i ≠ s) → Maps.has D (kl s) = false
  hit : ∀ s j, j < k → Sx j = s → (∀ i, i < j → Sx i ≠ s) → Maps.has D (kl s) = true ∧ D.atKey (kl s) (.lit (.int .i64 0)) = .lit (.int .i64 j)

theorem Idx.made (w : World) (Sx : Nat → ByteArray) : Idx (w.alloc (.map #[] 0)) w.heap.size 0 Sx (.map []) :=
  ⟨World.ownsMap_made _ _ _ _, fun _ _ => rfl, fun _ _ h => by omega⟩

theorem Idx.step_new {w w' : World} {mb k : Nat} {Sx : Nat → ByteArray} {D : DataW Unit} (h : Idx w mb k Sx D) (hne : ∀ i, i < k → Sx i ≠ Sx k)
    (hown : w'.ownsMap Ybaf.prog 9 (plainElem Ybaf.prog 3) mb (k + 1) (D.put (kl (Sx k)) (.lit (.int .i64 k)))) : Idx w' mb (k + 1) Sx (D.put (kl (Sx k)) (.lit (.int .i64 k))) := by
  refine ⟨hown, fun s hs => ?_, fun s j hj he hf => ?_⟩
  · rw [has_put_other (kl_ne (fun e => hs k (by omega) e.symm))]
    exact h.miss s (fun i hi => hs i (by omega))
  · by_cases e : j = k
    · subst e
      subst he
      have hk : WideAt.IsKeyLit (kl (Sx j)) := trivial
      exact ⟨has_put_same h.own.isMap hk _, atKey_put_same h.own.isMap hk _ _⟩
    · have hsk : s ≠ Sx k := fun e2 => hne j (by omega) (he.trans e2)
      rw [has_put_other (kl_ne hsk), atKey_put_other (kl_ne hsk)]
      exact h.hit s j (by omega) he hf

theorem Idx.step_old {w : World} {mb k : Nat} {Sx : Nat → ByteArray} {D : DataW Unit} (h : Idx w mb k Sx D) {j : Nat} (hj : j < k) (he : Sx j = Sx k) : Idx w mb (k + 1) Sx D := by
  refine ⟨h.own.mono (by omega), fun s hs => h.miss s (fun i hi => hs i (by omega)), fun s i hi e hf => ?_⟩
  by_cases e2 : i = k
  · subst e2
    exact absurd (he.trans e) (hf j hj)
  · exact h.hit s i (by omega) e hf

end Go.Proofs.YbulkwvwFmt
