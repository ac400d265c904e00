import Derived.Test.YbulkwyaFmtCards
import Derived.Test.YbulkwyaFmtPass
import Derived.ProofKit
import Derived.OpenShut
import Derived.ShutString
import Derived.ChangeOld
import Derived.Deep.Strs
import Derived.Stop.JoinedAt
import Derived.Stop.Texts
import Derived.Stop.JoinedTold
import Derived.SevenToldRow
namespace Go.Proofs.YbulkwyaFmt
open Go.ChangeShapes Go.WideShapes Go.ChangeAt Go.RowKit Go.Kit
open Go.ChangeMaps (open_string shut_string)

theorem own : ownKnob Ybaf.prog.godebug = none := by kernel_rfl
theorem laidOut : laidOutB Ybaf.prog = true := by kernel_rfl
theorem cells25 : Ybaf.prog.cellsOf 25 = 3 := by kernel_rfl
theorem cells9 : Ybaf.prog.cellsOf 9 = 1 := by kernel_rfl

theorem len3 {α : Type} (l : List α) (h : l.length = 3) : ∃ a b c, l = [a, b, c] := by
  match l, h with
  | [a, b, c], _ => exact ⟨a, b, c, rfl⟩

/-- One item: three strings side by side. -/
theorem item_cells {H : Type} {enc : TypeId × Value → H} {w : World} {spare : Nat → Bool} {held : Bool} {a : Addr} {cs : List Value} {n : Nat} {x : DataW H × List MemPlace} (hc : w.cells? 0 a 3 = some cs) (ht : DataW.trod enc Ybaf.prog w 0 spare held n 25 cs = some x) :
    ∃ s0 s1 s2 : ByteArray, w.cell? (a.add 0) = some (.string s0) ∧ w.cell? (a.add 1) = some (.string s1) ∧ w.cell? (a.add 2) = some (.string s2) := by
  obtain ⟨y0, y1, y2, m, _, hl, h0, h1, h2⟩ := Deep.trod_struct3 Ybaf.underlying25 ht
  rw [cells25] at hl
  obtain ⟨c0, c1, c2, rfl⟩ := len3 cs hl
  simp only [cells9] at h0 h1 h2
  obtain ⟨s0, e0, _⟩ := DataW.trod_string Ybaf.underlying9 h0
  obtain ⟨s1, e1, _⟩ := DataW.trod_string Ybaf.underlying9 h1
  obtain ⟨s2, e2, _⟩ := DataW.trod_string Ybaf.underlying9 h2
  simp at e0 e1 e2
  subst e0 e1 e2
  refine ⟨s0, s1, s2, ?_⟩
  simp only [World.cells?, Nat.zero_le, if_true] at hc
  have h3 : List.range 3 = [0, 1, 2] := rfl
  rw [h3] at hc
  simp [List.mapM_cons, Option.bind_eq_some_iff] at hc
  exact hc

set_option maxRecDepth 100000 in
theorem pass_lifted (os : Os) (started : os.Started) (H : Type) (enc : TypeId × Value → H) :
    ReturnsInTold .none {} Ybaf.checked os 3 .any Input.okWide ((OpenSpec.ofChange Rows.lawS1157CPassesMatchesSpec).preRow enc Ybaf.prog Ybaf.f3 [] false []) (fun F => ((OpenSpec.ofChange Rows.lawS1157CPassesMatchesSpec).at F).post enc Ybaf.prog Ybaf.f3 false true false false) (aloneAtReturn Ybaf.prog) nothingAlways := by
  refine returnsInTold_of_row (C := Ybaf.checked) (s := OpenSpec.ofChange Rows.lawS1157CPassesMatchesSpec) (by kernel_rfl) own started (by kernel_rfl) Ybaf.func3
    (OpenSpec.witness_stopped (enc := enc) (C := Ybaf.checked) false ⟨#[], #[.string ByteArray.empty, .string ByteArray.empty, .slice .none 0 0], []⟩ 8 (by kernel_rfl) (by kernel_rfl) (by kernel_rfl) (by kernel_rfl)) ?_
  intro F W base args ds gs before _ hF hval0 hW _ _ hsz _ _
  have hval : ∀ (j : Nat) t v, Ybaf.f3.params[j]? = some t → args[j]? = some v → Value.okWide Ybaf.prog W .any base t v := hval0
  have hW' := hW
  obtain ⟨p, q, hA0, hV, rfl, hfz, hnd⟩ := hW
  have hA : DataW.TrodAll enc Ybaf.prog W 0 (fun _ => true) true Ybaf.f3.params.toList args.toList ds p := hA0
  rw [Ybaf.params3] at hA hval
  obtain ⟨v0, vs0, d0, ds0, p0, q0, hargs, rfl, rfl, h0, r0⟩ := trodAll_cons hA
  obtain ⟨v1, vs1, d1, ds1, p1, q1, rfl, rfl, rfl, h1, r1⟩ := trodAll_cons r0
  obtain ⟨v2, vs2, d2, ds2, p2, q2, rfl, rfl, rfl, h2, r2⟩ := trodAll_cons r1
  obtain ⟨rfl, rfl, rfl⟩ := trodAll_nil r2
  obtain rfl : args = #[v0, v1, v2] := by cases args; simp_all
  obtain ⟨rfl, rfl⟩ := trodVars_none hV
  obtain ⟨a0, rfl, rfl, rfl, w0⟩ := open_string Ybaf.underlying9 (hval 0 9 v0 rfl rfl) h0
  obtain ⟨a1, rfl, rfl, rfl, w1⟩ := open_string Ybaf.underlying9 (hval 1 9 v1 rfl rfl) h1
  obtain ⟨a2, len2, cap2, rfl⟩ := okWide_slice Ybaf.underlying22 (hval 2 22 v2 rfl rfl)
  have k2 := h2
  have lt2 : ∀ x ∈ p2, x.block < W.heap.size := by obtain ⟨m, hm⟩ := k2; exact DataW.trod_lt m _ _ _ hm
  obtain ⟨Px, Kx, Nx, hm2, w2⟩ : ∃ Px Kx Nx, len2 ≤ maxLen ∧ (len2 = 0 ∨ ∃ b off, a2 = some ⟨b, off, none⟩ ∧ IsItems W b off len2 Px Kx Nx) := by
    obtain ⟨fuel, hf⟩ := h2
    rcases Deep.open_slice Ybaf.underlying22 hf with ⟨hcs, _⟩ | ⟨a, len, cap, m, n, D, Pl, hcs, _, hl, hm, hmm, _, hcell⟩
    · simp [Value.cells] at hcs
      obtain ⟨rfl, rfl, rfl⟩ := hcs
      exact ⟨fun _ => ByteArray.empty, fun _ => ByteArray.empty, fun _ => ByteArray.empty, Nat.zero_le _, .inl rfl⟩
    · simp [Value.cells] at hcs
      obtain ⟨rfl, rfl, rfl⟩ := hcs
      rw [cells25] at hcell
      simp at hmm
      by_cases hz : len2 = 0
      · exact ⟨fun _ => ByteArray.empty, fun _ => ByteArray.empty, fun _ => ByteArray.empty, Nat.le_trans hl hm, .inl hz⟩
      · have each : ∀ i, i < m → ∃ x : ByteArray × ByteArray × ByteArray, W.cell? (a.add (i * 3)) = some (.string x.1) ∧ W.cell? (a.add (i * 3 + 1)) = some (.string x.2.1) ∧ W.cell? (a.add (i * 3 + 2)) = some (.string x.2.2) := fun i hi => by
          obtain ⟨cs, hc, ht⟩ := hcell i hi
          obtain ⟨s0, s1, s2, e0, e1, e2⟩ := item_cells hc ht
          rw [Deep.add_add] at e0 e1 e2
          exact ⟨(s0, s1, s2), e0, e1, e2⟩
        obtain ⟨f, hf2⟩ := Deep.choose_lt each
        obtain ⟨b, off, spot⟩ := a
        have hc := (hf2 0 (by omega)).1
        have hspot : spot = none := by simpa [Addr.add] using World.cell?_spot hc
        subst hspot
        refine ⟨fun i => (f i).1, fun i => (f i).2.1, fun i => (f i).2.2, Nat.le_trans hl hm, .inr ⟨b, off, rfl, World.block_lt_of_cell? _ _ (by rw [add_plain] at hc; exact hc), fun i hi => ?_⟩⟩
        have hi2 := hf2 i (by omega)
        simp only [add_plain] at hi2
        simp only [Nat.add_assoc] at hi2 ⊢
        exact hi2
  clear hA0 hval0
  refine (pass_any W a2 len2 cap2 Px Kx Nx hm2 w2 a0 a1).mono fun e W' ⟨he, bel⟩ => ?_
  subst he
  exact ⟨_, rfl, _, _, _, [], _, [], hW', trodAll_mk1 (shut_bool Ybaf.underlying4 _), (trodAll_cons_mk (shut_string Ybaf.underlying9 w0) (trodAll_cons_mk (shut_string Ybaf.underlying9 w1) (trodAll_cons_mk (Below.trod laidOut (by kernel_rfl) (of_decide_eq_true (by kernel_rfl)) k2 bel lt2) trodAll_mk0))), rfl, bel.frame _, fun h => by cases h⟩

theorem plaidOut : laidOutB Ybaf.pinned.checked.prog = true := by kernel_rfl
theorem pstops : Ybaf.pinned.checked.prog.stops = Rows.lawS1157CPassesMatchesRow.stops := by kernel_rfl
theorem pstopKnobs : Ybaf.pinned.checked.prog.stopKnobs = [] := by kernel_rfl
theorem pquiet (os : Os) : Stop.quiet Ybaf.pinned.checked.prog os := by
  intro k hk
  rw [pstopKnobs] at hk
  cases hk

theorem passes_proved : Rows.LawS1157CPassesMatchesToldSaid :=
  Claim7.holds_of_told_any 3 Ybaf.f3 _ _ [] _ _ _ (by kernel_rfl) rfl rfl rfl plaidOut (by kernel_rfl) rfl ⟨rfl, rfl, rfl, rfl, rfl, rfl, rfl⟩ rfl rfl (by kernel_rfl) (by kernel_rfl) Ybaf.func3 (by kernel_rfl)
    (of_decide_eq_true (by kernel_rfl)) (by unfold Func.isWrapper; first | (rw [if_pos (by decide +kernel)]; kernel_rfl) | (rw [if_neg (by decide +kernel)]; exact ⟨rfl, rfl⟩)) pstops.symm rfl pstopKnobs.symm (by kernel_rfl)
    (by kernel_rfl) (by kernel_rfl) (by kernel_rfl) (by kernel_rfl) (by kernel_rfl) (by kernel_rfl) (by kernel_rfl) (by kernel_rfl) (by kernel_rfl) rfl (by kernel_rfl) rfl rfl
    rfl rfl
    rfl (by kernel_rfl) (by kernel_rfl) (by kernel_rfl) (by decide) (by kernel_rfl)
    (OpenClaim.moreEntering_of (by kernel_rfl) (by kernel_rfl) (by kernel_rfl) (by kernel_rfl) (by kernel_rfl) (by kernel_rfl) (by kernel_rfl) (by kernel_rfl) (by kernel_rfl) (by kernel_rfl))
    ⟨_, WideRow.started_initial, pquiet _⟩
    (fun os started _ H enc _ => pass_lifted os started H enc)
#print axioms passes_proved
end Go.Proofs.YbulkwyaFmt
