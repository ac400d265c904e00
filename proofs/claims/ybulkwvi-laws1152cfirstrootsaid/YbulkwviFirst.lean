import Derived.Test.YbulkwviWalks
namespace Go.Proofs.Ybulkwvi
open Go.RowKit

theorem Yba.info33 : (Yba.prog.info? 33).map (fun i => i.size) = some 10 := by kernel_rfl
theorem info_two {P : Program} {e : TypeId} {size : Nat} (h : (P.info? e).map (fun i => i.size) = some size) : ∃ i, P.info? e = some i ∧ i.size = size :=
  Option.map_eq_some_iff.1 h

theorem first_long (w : World) (ao : Option Addr) (n c : Nat) (hm : n ≤ maxLen) (hn : ¬ n ≤ 1024) :
    Calls Yba.prog 3 #[.slice ao n c] w fun e w' => e = .returned (.bool true) ∧ Below w.heap.size w w' := by
  unfold maxLen at hm
  have h : (1024 : Int) < (n : Int) := by omega
  go_enter Yba.func3, Yba.ntmps3
  go_wp2
  go_ret
  exact ⟨rfl, Below.refl _ _⟩

/-- No root: r is nil; every parent is looked at once more. -/
theorem first_miss (w : World) (ao : Option Addr) (n c : Nat) (Sx : Nat → ByteArray) (hn : n ≤ 1024) (h : IsStrs w ao n Sx) (hb : ∀ i, i < n → (Sx i).toList.isEmpty = false) :
    Calls Yba.prog 3 #[.slice ao n c] w fun e w' => e = .returned (.bool true) ∧ Below w.heap.size w w' := by
  rcases h with rfl | ⟨b, off, rfl, hbl, hc⟩
  · go_enter Yba.func3, Yba.ntmps3
    go_wp2_with fail
    refine (build_none w ao c Sx).mono ?_
    rintro e w1 ⟨T, g, qs, rfl, hT, hT1, hgT, hqT, hs, hnx⟩
    have hc1 : w1.cell? ⟨T, 1, none⟩ = some (.slice (some ⟨g, 0, none⟩) 0 (0 + 1)) := by rw [cell_of_row _ _ _ _ _ _ hT]; rfl
    clear hT
    go_wp2_with fail
    refine (root_miss _ w1 T g 0 (0 + 1) qs Sx (by omega) hc1 hs hb).mono ?_
    rintro e w2 ⟨rfl, rfl⟩
    go_wp2
    refine wp_loop_rounds 1 ?_
    rw [rounds_succ]
    go_wp2
    go_ret
    exact ⟨rfl, hnx⟩
  · go_enter Yba.func3, Yba.ntmps3
    go_wp2_with fail
    refine (build_some w b off n c Sx hn hbl hc).mono ?_
    rintro e w1 ⟨T, g, qs, rfl, hT, hT1, hgT, hqT, hs, hnx⟩
    have hc1 : w1.cell? ⟨T, 1, none⟩ = some (.slice (some ⟨g, 0, none⟩) n (n + 1)) := by rw [cell_of_row _ _ _ _ _ _ hT]; rfl
    clear hT
    go_wp2_with fail
    refine (root_miss _ w1 T g n (n + 1) qs Sx (by omega) hc1 hs hb).mono ?_
    rintro e w2 ⟨rfl, rfl⟩
    go_wp2
    go_loop [22] (fun i => ∃ k : Nat, k ≤ n ∧ i = .int .i64 k) (fun i => n - (intOf i).toNat)
    case atStart => exact ⟨0, Nat.zero_le _, rfl⟩
    case round =>
      obtain ⟨k, hk, rfl⟩ := hrel
      by_cases hkn : k < n
      · have hcx : w1.cell? ⟨b, off + k, none⟩ = some (.string (Sx k)) := (hnx.cell (by exact hbl)).trans (hc k hkn)
        have hb' := hb k hkn
        go_wp2
        go_round
        case rel => exact ⟨k + 1, by omega, by go_num⟩
        case measure => simp [intOf]; omega
      · go_wp2
        go_ret
        exact ⟨rfl, hnx⟩

/-- A root: span j. -/
theorem first_hit (w : World) (b off : Nat) (n c : Nat) (Sx : Nat → ByteArray) (hn : n ≤ 1024) (hbl : b < w.heap.size) (hc : ∀ i, i < n → w.cell? ⟨b, off + i, none⟩ = some (.string (Sx i)))
    (j : Nat) (hj : j < n) (he : (Sx j).toList.isEmpty = true) (hb : ∀ i, i < j → (Sx i).toList.isEmpty = false) :
    Calls Yba.prog 3 #[.slice (some ⟨b, off, none⟩) n c] w fun e w' => e = .returned (.bool true) ∧ Below w.heap.size w w' := by
  go_enter Yba.func3, Yba.ntmps3
  go_wp2_with fail
  refine (build_some w b off n c Sx hn hbl hc).mono ?_
  rintro e w1 ⟨T, g, qs, rfl, hT, hT1, hgT, hqT, hs, hnx⟩
  have hc1 : w1.cell? ⟨T, 1, none⟩ = some (.slice (some ⟨g, 0, none⟩) n (n + 1)) := by rw [cell_of_row _ _ _ _ _ _ hT]; rfl
  clear hT
  obtain ⟨q, hq⟩ := hs.get hj
  have Hq : Hid (qs[j]? = some q) := hq
  clear hq
  go_wp2_with fail
  refine (root_hit _ w1 T g n (n + 1) qs Sx (by omega) hc1 hs j q Hq.out he hb).mono ?_
  rintro e w2 ⟨rfl, rfl⟩
  go_wp2
  go_loop [7, 34] (fun r i => ∃ k : Nat, k ≤ j ∧ r = .int .i64 (-1) ∧ i = .int .i64 k) (fun _ i => n - (intOf i).toNat)
  case atStart => exact ⟨0, Nat.zero_le _, rfl, rfl⟩
  case round =>
    obtain ⟨k, hk, rfl, rfl⟩ := hrel
    have hkn : k < n := by omega
    by_cases hkj : k < j
    · obtain ⟨qk, hqk⟩ := hs.get hkn
      have hp : w1.cell? ⟨g, k, none⟩ = some (.pointer (some ⟨qk, 0, none⟩)) := hs.ptrAt hqk
      have hne : qk ≠ q := hs.apart (by omega) hqk Hq.out
      obtain ⟨cs1, ha, _⟩ := hs.blocks k qk hqk
      obtain ⟨cs2, hb2, _⟩ := hs.blocks j q Hq.out
      obtain ⟨i0, hi, hz1⟩ := info_two Yba.info33
      have heq := run_eql_ptr_other (P := Yba.prog) w1 (tp := 25) (a := ⟨qk, 0, none⟩) (b := ⟨q, 0, none⟩) Yba.underlying25 hi (by rw [hz1]; decide) (by intro h; injection h with h1; exact hne h1) ha hb2
      clear hqk ha hb2 hi hz1
      go_wp2
      go_round
      case rel => exact ⟨k + 1, by omega, rfl, by go_num⟩
      case measure => simp [intOf]; omega
    · obtain rfl : k = j := by omega
      have hp : w1.cell? ⟨g, k, none⟩ = some (.pointer (some ⟨q, 0, none⟩)) := hs.ptrAt Hq.out
      have hcq := (hs.cells k q Hq.out).1
      obtain ⟨i0, hi, hz1⟩ := info_two Yba.info33
      have heq := run_eql_ptr_same (P := Yba.prog) w1 (tp := 25) ⟨q, 0, none⟩ Yba.underlying25 hi
      clear hi hz1
      go_wp2
      go_loop [10] (fun i => ∃ m : Nat, m ≤ k ∧ i = .int .i64 m) (fun i => n - (intOf i).toNat)
      case atStart => exact ⟨0, Nat.zero_le _, rfl⟩
      case round =>
        obtain ⟨m, hm, rfl⟩ := hrel
        by_cases hmk : m < k
        · have hcx : w1.cell? ⟨b, off + m, none⟩ = some (.string (Sx m)) := (hnx.cell (by exact hbl)).trans (hc m (by omega))
          have hb' := hb m hmk
          go_wp2
          go_round
          case rel => exact ⟨m + 1, by omega, by go_num⟩
          case measure => simp [intOf]; omega
        · go_wp2
          go_ret
          exact ⟨by simp, hnx⟩

/-- THE WALK: for every slice of strings the law answers true. -/
theorem first_any (w : World) (ao : Option Addr) (n c : Nat) (Sx : Nat → ByteArray) (hm : n ≤ maxLen) (h : IsStrs w ao n Sx) :
    Calls Yba.prog 3 #[.slice ao n c] w fun e w' => e = .returned (.bool true) ∧ Below w.heap.size w w' := by
  by_cases hn : n ≤ 1024
  · rcases first_empty (fun i => (Sx i).toList.isEmpty) n with ⟨j, hj, he, hb⟩ | hb
    · rcases h with rfl | ⟨b, off, rfl, hbl, hc⟩
      · omega
      · exact first_hit w b off n c Sx hn hbl hc j hj he hb
    · exact first_miss w ao n c Sx hn h hb
  · exact first_long w ao n c hm hn
end Go.Proofs.Ybulkwvi
