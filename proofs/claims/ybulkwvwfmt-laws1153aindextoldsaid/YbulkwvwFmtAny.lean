import Derived.Test.YbulkwvwFmtPick
import Derived.Test.YbulkwvwFmtQuery
namespace Go.Proofs.YbulkwvwFmt
open Go.RowKit Go.Extern.Stop Go.Stop Go.Extern Go.Maps Go.WideMaps

set_option maxRecDepth 100000 in
theorem index_long (w : World) (ao : Option Addr) (n c : Nat) (hm : n ≤ maxLen) (hn : ¬ n ≤ 1024) (kv : Value) (query : ByteArray) (pick line col : Int) :
    Calls Ybaf.prog 3 #[.slice ao n c, kv, .string query, .int .u8 pick, .int .i64 line, .int .i64 col] w fun e w' => e = .returned (.bool true) ∧ Below w.heap.size w w' := by
  unfold maxLen at hm
  have h : (1024 : Int) < (n : Int) := by omega
  go_enter Ybaf.func3, Ybaf.ntmps3
  go_wp2
  go_ret
  exact ⟨rfl, Below.refl _ _⟩

set_option maxHeartbeats 1600000 in
set_option maxRecDepth 100000 in
theorem index_none (w : World) (ao : Option Addr) (c : Nat) (kv : Value) (query : ByteArray) (hq : query.size ≤ maxLen) (pick line col : Int) (hp0 : 0 ≤ pick) (hp1 : pick ≤ 255) (B : Bool) (hpk : (pick % 2 == 0) = B) :
    Calls Ybaf.prog 3 #[.slice ao 0 c, kv, .string query, .int .u8 pick, .int .i64 line, .int .i64 col] w fun e w' => e = .returned (.bool true) ∧ Below w.heap.size w w' := by
  obtain ⟨i0, hi, hz0, hz1, hz2⟩ := info_parts Ybaf.info34
  have hmm := @run_makeMap Ybaf.prog
  cases B
  all_goals
    go_enter Ybaf.func3, Ybaf.ntmps3
    go_wp2_with (at_make; refine wpList_make_full _ rfl _ _ 24 rfl w.heap.size 34 i0 _ 7 Ybaf.underlying24 hi hz0 hz1 _ _ _ _ 0 rfl rfl (by omega) (by omega) (by omega) (by unfold maxLen; omega) (Nat.le_refl _) ?_)
    intro w0 hown0 hgrow0
    have hnx0 : Below w.heap.size w w0 := (Below.refl _ _).grown hgrow0 (Nat.le_refl _) (fun k h => by cases h)
    clear hown0 hgrow0
    go_wp2
    refine wp_loop_rounds 1 ?_
    rw [rounds_succ]
    go_wp2
    have hI := Idx.made w0 (fun _ => ByteArray.empty)
    have hbel : Below w.heap.size w (w0.alloc (.map #[] 0)) := hnx0.alloc hnx0.size _
    obtain ⟨wr, hwr⟩ : ∃ wr, wr = w0.alloc (.map #[] 0) := ⟨_, rfl⟩
    rw [← hwr] at hI hbel ⊢
    clear hwr hnx0
    have HI : Hid (Idx wr w0.heap.size 0 (fun _ => ByteArray.empty) (.map [])) := hI
    clear hI
    refine wp_loop_rounds 1 ?_
    rw [rounds_succ]
    go_wp2
    refine wp_loop_rounds 1 ?_
    rw [rounds_succ]
    go_wp2_with fail
    refine (fin_miss w wr w0.heap.size w.heap.size 0 (fun _ => ByteArray.empty) (.map []) query line col _ _ _ hbel HI.out hq (by omega)).mono ?_
    rintro e w5 ⟨rfl, hF5, hb5, hr5⟩
    obtain ⟨g, cap, E, msg, c1, c2, c3, c4, c5, c6⟩ := hF5
    go_wp2
    go_ret
    exact ⟨by simp, hb5⟩

/-- What the walks are told of the names that came in. -/
def IsStrs (w : World) (ao : Option Addr) (n : Nat) (Sx : Nat → ByteArray) : Prop :=
  n = 0 ∨ ∃ b off, ao = some ⟨b, off, none⟩ ∧ b < w.heap.size ∧ ∀ i, i < n → w.cell? ⟨b, off + i, none⟩ = some (.string (Sx i)) ∧ (Sx i).size ≤ maxLen

/-- THE WALK: the law answers true, whatever came in. -/
theorem index_any (w : World) (ao : Option Addr) (n c : Nat) (Sx : Nat → ByteArray) (hm : n ≤ maxLen) (h : IsStrs w ao n Sx) (ka : Option Addr) (kl kc : Nat) (Kx : Nat → Int) (hk : IsKinds w ka kl Kx) (query : ByteArray) (hq : query.size ≤ maxLen)
    (pick line col : Int) (hp0 : 0 ≤ pick) (hp1 : pick ≤ 255) :
    Calls Ybaf.prog 3 #[.slice ao n c, .slice ka kl kc, .string query, .int .u8 pick, .int .i64 line, .int .i64 col] w fun e w' => e = .returned (.bool true) ∧ Below w.heap.size w w' := by
  by_cases hn : n ≤ 1024
  · rcases h with rfl | ⟨b, off, rfl, hb, hc⟩
    · exact index_none w ao c _ query hq pick line col hp0 hp1 _ rfl
    · by_cases h0 : n = 0
      · subst h0
        exact index_none w _ c _ query hq pick line col hp0 hp1 _ rfl
      · by_cases he : pick % 2 = 0
        · refine index_pick w b off n c Sx hn hb (fun i hi => (hc i hi).1) (fun i hi => (hc i hi).2) ka kl kc Kx hk query pick line col hp0 hp1 (by omega) _ ?_ ⟨he, rfl⟩
          have h1 := Int.emod_nonneg (pick / 2) (show (n : Int) ≠ 0 by omega)
          have h2 := Int.emod_lt_of_pos (pick / 2) (show (0 : Int) < (n : Int) by omega)
          exact (hc _ (by omega)).2
        · exact index_query w b off n c Sx hn hb (fun i hi => (hc i hi).1) (fun i hi => (hc i hi).2) ka kl kc Kx hk query pick line col hp0 hp1 (by omega) query hq ⟨by omega, rfl⟩
  · exact index_long w ao n c hm hn _ query pick line col
end Go.Proofs.YbulkwvwFmt
