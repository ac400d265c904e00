import Derived.Test.YbulkwvwFmtFin
namespace Go.Proofs.YbulkwvwFmt
open Go.RowKit Go.Extern.Stop Go.Stop Go.Extern Go.Maps Go.WideMaps

set_option maxHeartbeats 1600000 in
set_option maxRecDepth 100000 in
theorem index_pick (w : World) (b off n c : Nat) (Sx : Nat → ByteArray) (hn : n ≤ 1024) (hb : b < w.heap.size) (hc : ∀ i, i < n → w.cell? ⟨b, off + i, none⟩ = some (.string (Sx i))) (hsz : ∀ i, i < n → (Sx i).size ≤ maxLen)
    (ka : Option Addr) (kl kc : Nat) (Kx : Nat → Int) (hk : IsKinds w ka kl Kx) (query : ByteArray) (pick line col : Int) (hp0 : 0 ≤ pick) (hp1 : pick ≤ 255) (hn1 : 1 ≤ n) (arg : ByteArray) (hasz : arg.size ≤ maxLen)
    (harg : pick % 2 = 0 ∧ arg = Sx (pick / 2 % n).toNat) :
    Calls Ybaf.prog 3 #[.slice (some ⟨b, off, none⟩) n c, .slice ka kl kc, .string query, .int .u8 pick, .int .i64 line, .int .i64 col] w fun e w' => e = .returned (.bool true) ∧ Below w.heap.size w w' := by
  obtain ⟨i0, hi, hz0, hz1, hz2⟩ := info_parts Ybaf.info34
  have hmm := @run_makeMap Ybaf.prog
  have hd0 : decide (0 < n) = true := by simp; omega
  go_enter Ybaf.func3, Ybaf.ntmps3
  go_wp2_with (at_make; refine wpList_make_full _ rfl _ _ 24 rfl w.heap.size 34 i0 _ 7 Ybaf.underlying24 hi hz0 hz1 _ _ _ _ n rfl rfl (by omega) (by omega) ?b2 ?b3 (Nat.le_refl _) ?_)
  case b2 => rw [hz2]; omega
  case b3 => unfold maxLen; omega
  intro w0 hown0 hgrow0
  have hrow0 : Decls w0 w.heap.size n 0 (kb kl Kx) := by
    rcases hown0.2 with ⟨h, _⟩ | ⟨g, cap, cur, h, _, hg, _, _, hcs, _⟩
    · simp at h
    · simp only [Value.slice.injEq, Option.some.injEq, Addr.mk.injEq, and_true, true_and] at h
      obtain ⟨rfl, rfl⟩ := h
      exact ⟨cur, hg, hcs, by omega⟩
  have hnx0 : Below w.heap.size w w0 := (Below.refl _ _).grown hgrow0 (Nat.le_refl _) (fun k h => by cases h)
  have hs0 : w.heap.size < w0.heap.size := (hown0.lt _ rfl).2
  clear hown0 hgrow0
  go_wp2
  go_loopw [14, 15] (fun i t wr => ∃ k : Nat, k ≤ n ∧ i = .int .i64 k ∧ Decls wr w.heap.size n k (kb kl Kx) ∧ Below w.heap.size w wr)
    (fun i _ _ => n - (intOf i).toNat)
  case atStart => exact ⟨0, Nat.zero_le _, rfl, hrow0, hnx0⟩
  case round =>
    obtain ⟨k, hkn, rfl, hrow, hnx⟩ := hrel
    by_cases hlt : k < n
    · have hcx : wr.cell? ⟨b, off + k, none⟩ = some (.string (Sx k)) := (hnx.cell (by exact hb)).trans (hc k hlt)
      have hkx := hk.later hnx
      obtain ⟨cur, hcur, hcs, hct⟩ := hrow.row
      obtain ⟨v0, v1, v2, v3, v4, v5, v6, f0, f1, f2, f3, f4, f5, f6⟩ : ∃ v0 v1 v2 v3 v4 v5 v6, wr.cell? ⟨w.heap.size, k * 7, none⟩ = some v0 ∧ wr.cell? ⟨w.heap.size, k * 7 + 1, none⟩ = some v1 ∧ wr.cell? ⟨w.heap.size, k * 7 + 2, none⟩ = some v2 ∧ wr.cell? ⟨w.heap.size, k * 7 + 3, none⟩ = some v3 ∧ wr.cell? ⟨w.heap.size, k * 7 + 4, none⟩ = some v4 ∧ wr.cell? ⟨w.heap.size, k * 7 + 5, none⟩ = some v5 ∧ wr.cell? ⟨w.heap.size, k * 7 + 6, none⟩ = some v6 := by
        have hx : ∀ m, m < 7 → ∃ v, wr.cell? ⟨w.heap.size, k * 7 + m, none⟩ = some v := fun m hm => by
          rw [cell_of_row _ _ _ _ _ _ hcur]
          exact ⟨cur[k * 7 + m]'(by omega), by rw [Array.getElem?_eq_getElem]⟩
        obtain ⟨v0, f0⟩ := hx 0 (by omega)
        obtain ⟨v1, f1⟩ := hx 1 (by omega)
        obtain ⟨v2, f2⟩ := hx 2 (by omega)
        obtain ⟨v3, f3⟩ := hx 3 (by omega)
        obtain ⟨v4, f4⟩ := hx 4 (by omega)
        obtain ⟨v5, f5⟩ := hx 5 (by omega)
        obtain ⟨v6, f6⟩ := hx 6 (by omega)
        exact ⟨v0, v1, v2, v3, v4, v5, v6, f0, f1, f2, f3, f4, f5, f6⟩
      have hfz : ∀ j, wr.frozen? ⟨w.heap.size, j, none⟩ = false := fun j => frozen_of_row _ _ _ _ _ hcur
      have Hcur : Hid (wr.heap[w.heap.size]? = some (.cells cur 34 (0, 0))) := hcur
      clear hcur hrow hrow0 hnx0
      cases hB : kb kl Kx k
      all_goals
        go_wp2_with (go_at_call 4; refine (kind_any _ _ _ _ Kx hkx k (by omega) _ hB).mono ?_; rintro e w' ⟨rfl, rfl⟩)
        go_roundw
        case rel => exact ⟨k + 1, by omega, by go_num, decls_step Hcur.out hcs hct hlt _ _ _ _ _ _ _ (by rw [hB]; rfl), ((((((hnx.setCell (Nat.le_refl _) _).setCell (Nat.le_refl _) _).setCell (Nat.le_refl _) _).setCell (Nat.le_refl _) _).setCell (Nat.le_refl _) _).setCell (Nat.le_refl _) _).setCell (Nat.le_refl _) _⟩
        case measure => simp [intOf]; omega
    · obtain rfl : k = n := by omega
      obtain ⟨wa, hwa⟩ : ∃ wa, wa = wr := ⟨_, rfl⟩
      subst hwa
      obtain ⟨m, hm⟩ : ∃ m : Nat, (m : Int) = pick / 2 % k := ⟨(pick / 2 % k).toNat, by have := Int.emod_nonneg (pick / 2) (show (k : Int) ≠ 0 by omega); omega⟩
      have hmk : m < k := by have := Int.emod_lt_of_pos (pick / 2) (show (0 : Int) < (k : Int) by omega); omega
      have hwp : wrap64 (pick / 2 % k) = (m : Int) := by rw [← hm]; exact wrap_small _ (by omega) (by omega)
      have hcm : wa.cell? ⟨b, off + m, none⟩ = some (.string (Sx m)) := (hnx.cell (by exact hb)).trans (hc m hmk)
      have hcw : ∀ i, i < k → wa.cell? ⟨b, off + i, none⟩ = some (.string (Sx i)) := fun i hi => (hnx.cell (by exact hb)).trans (hc i hi)
      have HW : Hid (∀ i, i < k → wa.cell? ⟨b, off + i, none⟩ = some (.string (Sx i))) := hcw
      have Hm : Hid ((m : Int) = pick / 2 % k) := hm
      clear hcw hm
      have hI0 := Idx.made wa Sx
      have hB0 : Below wa.heap.size wa (wa.alloc (.map #[] 0)) := (Below.refl _ _).alloc (Nat.le_refl _) _
      have hbw : b < wa.heap.size := by have := hnx.size; omega
      have hkw := hk.later hnx
      have Hrow : Hid (Decls wa w.heap.size k k (kb kl Kx)) := hrow
      clear hrow hrow0 hnx0 hc hk
      obtain ⟨he, ha⟩ := harg
      have he1 : (pick % 2 == 0) = true := by simp [he]
      have ha2 : Sx m = arg := by rw [ha, ← Hm.out]; simp
      rw [ha2] at hcm
      clear ha ha2 he
      go_wp2
      clear he1 hcm hwp Hm
      go_loopw [18] (fun i wr => ∃ (k2 : Nat) (D : DataW Unit), k2 ≤ k ∧ i = .int .i64 k2 ∧ Idx wr wa.heap.size k2 Sx D ∧ Below wa.heap.size wa wr)
        (fun i _ => k - (intOf i).toNat)
      case atStart => exact ⟨0, _, Nat.zero_le _, rfl, hI0, hB0⟩
      case round =>
        obtain ⟨k2, D, hk2, rfl, hI, hB⟩ := hrel
        by_cases hlt2 : k2 < k
        · have hcx : wr.cell? ⟨b, off + k2, none⟩ = some (.string (Sx k2)) := (hB.cell (by exact hbw)).trans (HW.out k2 hlt2)
          rcases first_at Sx (Sx k2) k2 with ⟨j, hj, hje, hjf⟩ | hno
          · have hl := look_found hI.own (Sx k2) (hsz k2 hlt2) j (hI.hit _ j hj hje hjf).1 (hI.hit _ j hj hje hjf).2
            have R := hI.step_old hj hje
            clear hI hje hjf hI0 hB0
            go_wp2
            go_roundw
            case rel => exact ⟨k2 + 1, D, by omega, by go_num, R, hB⟩
            case measure => simp [intOf]; omega
          · have hl := look_missing hI.own (Sx k2) (hsz k2 hlt2) (hI.miss _ hno)
            have hwf : (Lit.int .i64 (k2 : Int)).wf = true := WalkArith.wf_i64 (by omega)
            go_wp2_with (at_mapUpdate; (refine wpList_mapUpdate_own _ rfl _ _ _ 36 rfl 9 3 law9 Ybaf.underlying36 _ wa.heap.size k2 _ rfl hI.own (by unfold maxLen; omega) _ _ _ rfl rfl (keyOf_string_mk Ybaf.underlying9 (hsz k2 hlt2)) _ [] (plainElem_int Ybaf.underlying3 hwf) ?_))
            intro w1 hown1 hgrow1
            have R := hI.step_new hno hown1
            have R2 := hB.grown hgrow1 hB.size (fun j hj => by cases hj; exact Nat.le_refl _)
            clear hown1 hgrow1 hI hno hl hcx hI0 hB0
            go_wp2
            go_roundw
            case rel => first | exact ⟨k2 + 1, _, by omega, by go_num, R, R2⟩ | ((repeat apply Exists.intro); exact ⟨⟨k2 + 1, _, by omega, by go_num, R, R2⟩, rfl⟩)
            case measure => simp [intOf]; omega
        · obtain rfl : k2 = k := by omega
          have HI : Hid (Idx wr wa.heap.size k2 Sx D) := hI
          have hbelw : Below w.heap.size w wr := hnx.trans (hB.mono hnx.size)
          have Hrow2 : Hid (Decls wr w.heap.size k2 k2 (kb kl Kx)) := Hrow.out.later (hB.block _ Hrow.out.lt)
          clear hI hI0 hB0
          go_wp2
          go_loop [21, 22, 23] (fun a f i => ∃ k3 : Nat, k3 ≤ k2 ∧ a = .int .i64 0 ∧ f = .bool false ∧ i = .int .i64 k3 ∧ ∀ i, i < k3 → Sx i ≠ arg)
            (fun _ _ i => k2 - (intOf i).toNat)
          case atStart => exact ⟨0, Nat.zero_le _, rfl, rfl, rfl, by omega⟩
          case round =>
            obtain ⟨k3, hk3, rfl, rfl, rfl, hno⟩ := hrel
            by_cases hlt3 : k3 < k2
            · have hcx : wr.cell? ⟨b, off + k3, none⟩ = some (.string (Sx k3)) := (hB.cell (by exact hbw)).trans (HW.out k3 hlt3)
              by_cases heq : Sx k3 = arg
              · have hev := eq_true _ _ heq
                have Heq : Hid (Sx k3 = arg) := heq
                have Hno : Hid (∀ i, i < k3 → Sx i ≠ arg) := hno
                clear heq hno
                cases hB4 : kb kl Kx k3
                · go_wp2_with fail
                  refine (kind_any wr ka kl kc Kx (hkw.later hB) k3 (by omega) _ hB4).mono ?_
                  rintro e w' ⟨rfl, rfl⟩
                  go_wp2_with fail
                  refine (fin_bad w wr wa.heap.size w.heap.size k2 k3 (kb kl Kx) Sx D arg line col _ _ _ hbelw HI.out Hrow2.out hn hasz hlt3 Heq.out Hno.out hB4).mono ?_
                  rintro e w5 ⟨rfl, hF5, hb5, hr5⟩
                  obtain ⟨g, cap, E, msg, c1, c2, c3, c4, c5, c6⟩ := hF5
                  clear hB hkw hcx
                  go_wp2
                  go_ret
                  exact ⟨by simp, hb5⟩
                · go_wp2_with fail
                  refine (kind_any wr ka kl kc Kx (hkw.later hB) k3 (by omega) _ hB4).mono ?_
                  rintro e w' ⟨rfl, rfl⟩
                  go_wp2_with fail
                  refine (fin_ok w wr wa.heap.size w.heap.size k2 k3 (kb kl Kx) Sx D arg line col _ _ _ hbelw HI.out Hrow2.out hn hasz hlt3 Heq.out Hno.out hB4).mono ?_
                  rintro e w5 ⟨rfl, hb5, hr5, hl5⟩
                  clear hB hkw hcx
                  go_wp2
                  go_ret
                  exact ⟨by simp, hb5⟩
              · have hev := eq_false _ _ heq
                have hno' : ∀ i, i < k3 + 1 → Sx i ≠ arg := fun i hi => by
                  by_cases e : i = k3
                  · subst e; exact heq
                  · exact hno i (by omega)
                have Hno : Hid (∀ i, i < k3 + 1 → Sx i ≠ arg) := hno'
                clear heq hno hno'
                go_wp2
                go_round
                case rel => exact ⟨k3 + 1, by omega, rfl, rfl, by go_num, Hno.out⟩
                case measure => simp [intOf]; omega
            · obtain rfl : k3 = k2 := by omega
              have Hno : Hid (∀ i, i < k3 → Sx i ≠ arg) := hno
              clear hno
              go_wp2_with fail
              refine (fin_miss w wr wa.heap.size w.heap.size k3 Sx D arg line col _ _ _ hbelw HI.out hasz Hno.out).mono ?_
              rintro e w5 ⟨rfl, hF5, hb5, hr5⟩
              obtain ⟨g, cap, E, msg, c1, c2, c3, c4, c5, c6⟩ := hF5
              clear hB hkw
              go_wp2
              go_ret
              exact ⟨by simp, hb5⟩
end Go.Proofs.YbulkwvwFmt
