import Derived.Test.YbulkwyaFmtCards
import Derived.Test.YbulkwyaFmtTie
import Derived.Test.YbulkwyaFmtWrap
import Derived.ProofKit
import Derived.OpenShut
import Derived.ShutString
import Derived.ChangeOld
import Derived.Stop.JoinedAt
import Derived.Stop.Joined
import Derived.Stop.Texts
import Derived.Stop.JoinedTold
import Derived.SevenToldRow
import Derived.SevenTiedAt
import Derived.LaidLaws
import Derived.LaidHandle
import Derived.RowKitTokens
namespace Go.Proofs.YbulkwyaFmt
open Go.ChangeShapes Go.WideShapes Go.ChangeAt Go.RowKit Go.Kit
open Go.ChangeMaps (open_string shut_string)

theorem wown : ownKnob Ybaf.prog.godebug = none := by kernel_rfl
theorem et : Ybaf.prog.globalNamed "errors.errorType" = some 0 := by kernel_rfl
theorem typesSize : Ybaf.prog.types.size = 125 := by kernel_rfl
theorem oneRow : ((List.range 125).filter fun t => Ybaf.prog.rowNamed t [101, 114, 114, 111, 114]) = [32] := by kernel_rfl

/-- What the condition gives a walk: the variable's one cell. -/
theorem handle_of_laid {W : World} (h : laidMetH Ybaf.prog Rows.lawS1157CWrapsErrorRow.laid W) : W.cell? ⟨0, 0, none⟩ = some (.iface 70 (.agg #[.pointer (some ⟨1, 32, none⟩)])) := by
  have h' : laidMet Ybaf.prog [] W ∧ handlesMet Ybaf.prog Rows.lawS1157CWrapsErrorRow.laid W := h
  obtain ⟨name, u, ty, e1, e2, e3, e4, e5⟩ := h'.2 _ (List.mem_singleton.2 rfl)
  have en : name = [101, 114, 114, 111, 114] := (Option.some.inj e1).symm
  subst en
  have hu : some u = some 70 := e2.symm.trans (by kernel_rfl)
  obtain rfl := Option.some.inj hu
  have hm : ty ∈ (List.range 125).filter fun t => Ybaf.prog.rowNamed t [101, 114, 114, 111, 114] := List.mem_filter.2 ⟨List.mem_range.2 (by rw [← typesSize]; exact e3), e4⟩
  rw [oneRow] at hm
  obtain rfl := List.mem_singleton.1 hm
  have hh : typeHandle Ybaf.prog 32 = .pointer (some ⟨1, 32, none⟩) := by kernel_rfl
  rw [hh] at e5
  simpa using World.var?_cell et e5 0

set_option maxRecDepth 100000 in
/-- A world that meets the condition: the settled one, the variable's cell laid. -/
theorem wrap_start (os : Os) (H : Type) (enc : TypeId × Value → H) : ∃ w0 : World, w0.os = os ∧ (w0.forCall (fun _ _ => 0) ⟨#[], #[.string ByteArray.empty, .string ByteArray.empty, .int .i64 0, .int .u8 0], []⟩).variablesB Ybaf.checked.prog = true ∧
    ((w0.forCall (fun _ _ => 0) ⟨#[], #[.string ByteArray.empty, .string ByteArray.empty, .int .i64 0, .int .u8 0], []⟩).heap.toList.drop Ybaf.checked.prog.globals.size).take ((begin Ybaf.checked.prog (fun _ _ => 0) default).world.heap.size - Ybaf.checked.prog.globals.size) =
      (begin Ybaf.checked.prog (fun _ _ => 0) default).world.heap.toList.drop Ybaf.checked.prog.globals.size ∧
    Input.okWideB Ybaf.checked.prog (w0.forCall (fun _ _ => 0) ⟨#[], #[.string ByteArray.empty, .string ByteArray.empty, .int .i64 0, .int .u8 0], []⟩) 4 ⟨#[], #[.string ByteArray.empty, .string ByteArray.empty, .int .i64 0, .int .u8 0], []⟩ = true ∧
    (OpenSpec.ofChange Rows.lawS1157CWrapsErrorSpec).preRow enc Ybaf.checked.prog Ybaf.f4 [] false Rows.lawS1157CWrapsErrorRow.laid (w0.forCall (fun _ _ => 0) ⟨#[], #[.string ByteArray.empty, .string ByteArray.empty, .int .i64 0, .int .u8 0], []⟩).memory #[.string ByteArray.empty, .string ByteArray.empty, .int .i64 0, .int .u8 0] :=
  ⟨{ World.holding Ybaf.prog os ⟨#[], #[], []⟩ with heap := (World.holding Ybaf.prog os ⟨#[], #[], []⟩).heap.modify 0 fun
      | .cells _ t frozen => .cells #[.iface 70 (.agg #[.pointer (some ⟨1, 32, none⟩)])] t frozen
      | o => o }, rfl, by kernel_rfl, by kernel_rfl, by kernel_rfl, OpenSpec.preRow_of_B rfl 8 (by kernel_rfl) (by kernel_rfl) (laidMetH_of_parts (laidMet_nil _ _) (by kernel_rfl))⟩

set_option maxRecDepth 100000 in
theorem wrap_lifted (os : Os) (started : os.Started) (H : Type) (enc : TypeId × Value → H) :
    ReturnsInTold .none {} Ybaf.checked os 4 .any Input.okWide ((OpenSpec.ofChange Rows.lawS1157CWrapsErrorSpec).preRow enc Ybaf.prog Ybaf.f4 [] false Rows.lawS1157CWrapsErrorRow.laid) (fun F => ((OpenSpec.ofChange Rows.lawS1157CWrapsErrorSpec).at F).post enc Ybaf.prog Ybaf.f4 false true false false) (aloneAtReturn Ybaf.prog) nothingAlways := by
  obtain ⟨ws, q1, q2, q3, q4, q5⟩ := wrap_start os H enc
  refine returnsInTold_of_row (C := Ybaf.checked) (s := OpenSpec.ofChange Rows.lawS1157CWrapsErrorSpec) (by kernel_rfl) wown started (by kernel_rfl) Ybaf.func4
    (OpenSpec.witness_stopped_at (enc := enc) (C := Ybaf.checked) false ws #[.string ByteArray.empty, .string ByteArray.empty, .int .i64 0, .int .u8 0] q1 q2 q3 q4 q5) ?_
  clear q1 q2 q3 q4 q5
  intro F W base args ds gs before _ hF hval0 hW _ _ hsz hL _
  have hval : ∀ (j : Nat) t v, Ybaf.f4.params[j]? = some t → args[j]? = some v → Value.okWide Ybaf.prog W .any base t v := hval0
  have hW' := hW
  obtain ⟨p, q, hA0, hV, rfl, hfz, hnd⟩ := hW
  have hA : DataW.TrodAll enc Ybaf.prog W 0 (fun _ => true) true Ybaf.f4.params.toList args.toList ds p := hA0
  rw [Ybaf.params4] at hA hval
  obtain ⟨v0, vs0, d0, ds0, p0, q0, hargs, rfl, rfl, h0, r0⟩ := trodAll_cons hA
  obtain ⟨v1, vs1, d1, ds1, p1, q1, rfl, rfl, rfl, h1, r1⟩ := trodAll_cons r0
  obtain ⟨v2, vs2, d2, ds2, p2, q2, rfl, rfl, rfl, h2, r2⟩ := trodAll_cons r1
  obtain ⟨v3, vs3, d3, ds3, p3, q3, rfl, rfl, rfl, h3, r3⟩ := trodAll_cons r2
  obtain ⟨rfl, rfl, rfl⟩ := trodAll_nil r3
  obtain rfl : args = #[v0, v1, v2, v3] := by cases args; simp_all
  obtain ⟨rfl, rfl⟩ := trodVars_none hV
  obtain ⟨a0, rfl, rfl, rfl, w0⟩ := open_string Ybaf.underlying9 (hval 0 9 v0 rfl rfl) h0
  obtain ⟨a1, rfl, rfl, rfl, w1⟩ := open_string Ybaf.underlying9 (hval 1 9 v1 rfl rfl) h1
  obtain ⟨a2, rfl, rfl, rfl, w2⟩ := open_int Ybaf.underlying3 (hval 2 3 v2 rfl rfl) h2
  obtain ⟨a3, rfl, rfl, rfl, w3⟩ := open_int Ybaf.underlying5 (hval 3 5 v3 rfl rfl) h3
  have hb3 := bounds_u8 w3
  have hg := handle_of_laid hL
  clear hA0 hval0
  refine (wrap_any W a0 a1 a2 a3 hb3.1 hb3.2 hg).mono fun e W' ⟨he, bel⟩ => ?_
  subst he
  exact ⟨_, rfl, _, _, _, [], _, [], hW', trodAll_mk1 (shut_bool Ybaf.underlying4 _), (trodAll_cons_mk (shut_string Ybaf.underlying9 w0) (trodAll_cons_mk (shut_string Ybaf.underlying9 w1) (trodAll_cons_mk (shut_int Ybaf.underlying3 w2) (trodAll_cons_mk (shut_int Ybaf.underlying5 w3) trodAll_mk0)))), rfl, bel.frame _, fun h => by cases h⟩

theorem wlaidOut : laidOutB Ybaf.pinned.checked.prog = true := by kernel_rfl
theorem wstops : Ybaf.pinned.checked.prog.stops = Rows.lawS1157CWrapsErrorRow.stops := by kernel_rfl
theorem wstopKnobs : Ybaf.pinned.checked.prog.stopKnobs = [] := by kernel_rfl
theorem wquiet (os : Os) : Stop.quiet Ybaf.pinned.checked.prog os := by
  intro k hk
  rw [wstopKnobs] at hk
  cases hk

theorem wraps_proved : Rows.LawS1157CWrapsErrorToldSaid :=
  Claim7.holds_of_told_tied_any_at .later 4 Ybaf.f4 _ _ [] _ _ _ _ _ (by kernel_rfl) rfl rfl rfl wlaidOut (by kernel_rfl) rfl ⟨rfl, rfl, rfl, rfl, rfl, rfl, rfl⟩ rfl rfl (by kernel_rfl) (by kernel_rfl) Ybaf.func4 (by kernel_rfl)
    (of_decide_eq_true (by kernel_rfl)) (by unfold Func.isWrapper; first | (rw [if_pos (by decide +kernel)]; kernel_rfl) | (rw [if_neg (by decide +kernel)]; exact ⟨rfl, rfl⟩)) wstops.symm rfl wstopKnobs.symm (by kernel_rfl)
    (by kernel_rfl) (by kernel_rfl) (by kernel_rfl) (by kernel_rfl) (by kernel_rfl) (by kernel_rfl) (by kernel_rfl) (by kernel_rfl) (by kernel_rfl) rfl (by kernel_rfl) rfl rfl
    rfl rfl
    rfl (by kernel_rfl) (by kernel_rfl) (by kernel_rfl) (by decide) (by kernel_rfl) lawS1157CWrapsError_row_tie
    (OpenClaim.moreEntering_of (by kernel_rfl) (by kernel_rfl) (by kernel_rfl) (by kernel_rfl) (by kernel_rfl) (by kernel_rfl) (by kernel_rfl) (by kernel_rfl) (by kernel_rfl) (by kernel_rfl))
    ⟨_, WideRow.started_initial, wquiet _⟩
    (fun os started _ H enc _ => wrap_lifted os started H enc)
#print axioms wraps_proved
end Go.Proofs.YbulkwyaFmt
