import Derived.Test.YbulkwvwFmtRows
import Derived.WalkKit
import Derived.WalkSpells
import Derived.Below
namespace Go.Proofs.YbulkwvwFmt
open Go.RowKit

/-- What the walks are told of the kinds that came in. -/
def IsKinds (w : World) (a : Option Addr) (len : Nat) (Kx : Nat → Int) : Prop :=
  len ≤ maxLen ∧ (len = 0 ∨ ∃ b off, a = some ⟨b, off, none⟩ ∧ b < w.heap.size ∧ ∀ i, i < len → w.cell? ⟨b, off + i, none⟩ = some (.int .u8 (Kx i)) ∧ 0 ≤ Kx i ∧ Kx i ≤ 255)

/-- Is argument i a buffer? -/
def kb (len : Nat) (Kx : Nat → Int) (i : Nat) : Bool := if i < len then Kx i % 2 == 0 else true

theorem IsKinds.later {w w' : World} {a : Option Addr} {len : Nat} {Kx : Nat → Int} (h : IsKinds w a len Kx) (hb : Below w.heap.size w w') : IsKinds w' a len Kx := by
  obtain ⟨hm, h | ⟨b, off, rfl, hl, hc⟩⟩ := h
  · exact ⟨hm, .inl h⟩
  · exact ⟨hm, .inr ⟨b, off, rfl, by have := hb.size; omega, fun i hi => ⟨(hb.cell (by exact hl)).trans (hc i hi).1, (hc i hi).2⟩⟩⟩

theorem kind_any (w : World) (a : Option Addr) (len cap : Nat) (Kx : Nat → Int) (h : IsKinds w a len Kx) (i : Nat) (hi : i ≤ 1024) (B : Bool) (hB : kb len Kx i = B) :
    Calls Ybaf.prog 4 #[.slice a len cap, .int .i64 i] w fun e w' => e = .returned (.bool B) ∧ w = w' := by
  obtain ⟨hm, h⟩ := h
  unfold maxLen at hm
  by_cases hil : i < len
  · rcases h with h | ⟨b, off, rfl, hl, hc⟩
    · omega
    · obtain ⟨hc0, h0, h1⟩ := hc i hil
      have e : (Kx i % 2 == 0) = B := by simpa [kb, hil] using hB
      obtain ⟨x, hx⟩ : ∃ x, x = Kx i := ⟨_, rfl⟩
      rw [← hx] at hc0 h0 h1 e
      clear hx hc hB
      go_enter Ybaf.func4, Ybaf.ntmps4
      go_wp2
      go_ret
      exact ⟨by rw [← e]; rfl, rfl⟩
  · have e : true = B := by simpa [kb, hil] using hB
    subst e
    clear h
    go_enter Ybaf.func4, Ybaf.ntmps4
    go_wp2
    go_ret
    exact ⟨rfl, rfl⟩
end Go.Proofs.YbulkwvwFmt
