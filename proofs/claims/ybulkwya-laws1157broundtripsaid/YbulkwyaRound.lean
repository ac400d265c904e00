import Derived.Test.YbulkwyaExact
namespace Go.Proofs.Ybulkwya
open Go.RowKit

theorem val_any (d : Int) (h0 : 0 ≤ d) (h1 : d < 16) (w : World) : Calls Yba.prog 7 #[.int .u8 (hexI d)] w fun e w' => e = .returned (.tuple #[.int .u8 d, .bool true]) ∧ w = w' := by
  by_cases hd : d < 10
  · have e : hexI d = 48 + d := by simp [hexI, hd]
    have e2 : 48 + d - 48 = d := by omega
    rw [e]
    go_enter Yba.func7, Yba.ntmps7
    go_wp2
    go_ret2
    exact ⟨by simp, rfl⟩
  · have e : hexI d = 55 + d := by simp [hexI, hd]
    have e2 : 55 + d - 65 + 10 = d := by omega
    rw [e]
    go_enter Yba.func7, Yba.ntmps7
    go_wp2
    go_ret2
    exact ⟨by simp, rfl⟩

theorem round_long (s : ByteArray) (hm : s.size ≤ maxLen) (hs : ¬ s.size ≤ 1024) (w : World) : Calls Yba.prog 4 #[.string s] w fun e w' => e = .returned (.bool true) ∧ Below w.heap.size w w' := by
  unfold maxLen at hm
  have h : (1024 : Int) < (s.size : Int) := by omega
  go_enter Yba.func4, Yba.ntmps4
  go_wp2
  go_ret
  exact ⟨rfl, Below.refl _ _⟩

def bytesI (l : List UInt8) : List Int := l.map (fun c => (c.toNat : Int))

theorem bytesI_snoc (s : ByteArray) (k : Nat) (h : k < s.size) : bytesI (s.data.toList.take (k + 1)) = bytesI (s.data.toList.take k) ++ [(s[k].toNat : Int)] := by
  rw [List.take_succ_eq_append_getElem (by simpa using h)]
  simp only [bytesI, List.map_append, List.map_cons, List.map_nil]
  rfl

theorem conv_back (s : ByteArray) (w : World) (g : Nat) (hc : ∀ j (hj : j < (bytesI s.data.toList).length), w.cell? ⟨g, j, none⟩ = some (.int .u8 (bytesI s.data.toList)[j])) :
    (convert 25 9 (.slice (some ⟨g, 0, none⟩) s.size s.size)).run Yba.prog w = .ok (.string s) w := by
  obtain ⟨got, h1, h2⟩ := conv_any w g s.size (bytesI s.data.toList) (fun n hn => by
    simp only [bytesI, List.mem_map] at hn
    obtain ⟨c, _, rfl⟩ := hn
    have := UInt8.toNat_lt c
    omega) hc
  have hl : (bytesI s.data.toList).length = s.size := by simp [bytesI]
  rw [hl] at h1
  have e : got = s := by
    refine WideShapes.bytes_inj ?_
    rw [h2, bytesI, List.map_map]
    refine (List.map_congr_left (fun c _ => ?_)).trans (List.map_id _)
    simp
  rw [h1, e]

set_option maxHeartbeats 1600000 in
theorem round_short (s : ByteArray) (hs : s.size ≤ 1024) (w : World) : Calls Yba.prog 4 #[.string s] w fun e w' => e = .returned (.bool true) ∧ Below w.heap.size w w' := by
  obtain ⟨i0, hi, hz0, hz1, hz2⟩ := info_parts Yba.info5
  go_enter Yba.func4, Yba.ntmps4
  go_wp2_with fail
  refine (esc_any s hs w).mono ?_
  rintro e w1 ⟨got, rfl, hg, hnx⟩
  have hgs : (got.size : Int) = 3 * (s.size : Int) := by have := got_size s got hg; omega
  have HG : Hid _ := hg
  have hsz := hnx.size
  clear hg
  go_wp2_with (at_make; refine wpList_make_own _ rfl _ _ 25 rfl w.heap.size 5 i0 (.int .u8 0) 1 Yba.underlying25 hi hz0 hz1 _ _ _ s.size rfl rfl (by omega) ?b2 ?b3 ?b4 ?_)
  case b2 => rw [hz2]; omega
  case b3 => unfold maxLen; omega
  case b4 => exact hsz
  intro w2 hown2 hgrow2
  have hn2 : Below w.heap.size w w2 := hnx.grown hgrow2 hsz (fun k h => by cases h)
  have hlt2 : w1.heap.size < w2.heap.size := (hown2.lt _ rfl).2
  obtain ⟨g, hgg⟩ : ∃ g, g = w1.heap.size := ⟨_, rfl⟩
  rw [← hgg] at hown2 ⊢
  clear hgrow2 hgg hnx
  go_wp2
  go_loopw [4, 5] (fun v i wr => ∃ k : Nat, k ≤ s.size ∧ i = .int .i64 (3 * (k : Int)) ∧ v = .slice (some ⟨g, 0, none⟩) k s.size ∧ wr.ownsRow w.heap.size 5 1 (.slice (some ⟨g, 0, none⟩) k s.size) k ((bytesI (s.data.toList.take k)).map (Value.int .u8)) ∧ Below w.heap.size w wr)
    (fun _ i _ => 3 * s.size - (intOf i).toNat)
  case atStart => exact ⟨0, Nat.zero_le _, rfl, rfl, hown2, hn2⟩
  case round =>
    obtain ⟨k, hk, rfl, rfl, hown, hnk⟩ := hrel
    by_cases hlt : k < s.size
    · have hu : s[k].toNat < 256 := UInt8.toNat_lt _
      obtain ⟨a0, a1, a2⟩ := escs_at s.data.toList k (by simpa using hlt)
      have hi0 := got_index s got HG.out _ _ a0 (3 * (k : Int)) (by omega)
      have hi1 : ∀ w, (Instr.index 9 (.string got) (.int .i64 (3 * (k : Int) + 1))).run Yba.prog w = .ok (.int .u8 (hexI ((s[k].toNat : Int) / 16))) w := got_index s got HG.out _ _ a1 (3 * (k : Int) + 1) (by omega)
      have hi2 : ∀ w, (Instr.index 9 (.string got) (.int .i64 (3 * (k : Int) + 2))).run Yba.prog w = .ok (.int .u8 (hexI ((s[k].toNat : Int) % 16))) w := got_index s got HG.out _ _ a2 (3 * (k : Int) + 2) (by omega)
      have HS : Hid _ := bytesI_snoc s k hlt
      have hsum : (s[k].toNat : Int) / 16 * 16 + (s[k].toNat : Int) % 16 = (s[k].toNat : Int) := by omega
      clear a0 a1 a2
      go_wp2_with fail
      refine (val_any _ (by omega) (by omega) _).mono ?_
      rintro e w' ⟨rfl, rfl⟩
      go_wp2_with fail
      refine (val_any _ (by omega) (by omega) _).mono ?_
      rintro e w' ⟨rfl, rfl⟩
      go_wp2_with (at_builtin; (refine wpList_append_fits _ rfl (.tmp 56) (.tmp 61) 25 rfl w.heap.size 5 i0 1 Yba.underlying25 hi hz1 g k s.size _ rfl (hown.alloc _) ⟨wr.heap.size, 0, none⟩ 1 1 [.int .u8 (s[k].toNat : Int)] rfl rfl ?c1 ?c2 (by omega) ?_))
      case c1 =>
        intro t u ht
        match t, ht with
        | 0, ht => simp at ht; subst ht; simp [Addr.add]
      case c2 => intro u hu; simp at hu; subst hu; rfl
      intro w3 hown3 hgrow3
      have R : w3.ownsRow w.heap.size 5 1 (.slice (some ⟨g, 0, none⟩) (k + 1) s.size) (k + 1) ((bytesI (s.data.toList.take (k + 1))).map (Value.int .u8)) := by
        rw [HS.out, List.map_append]
        exact hown3
      have R2 := ((hnk.alloc hnk.size _)).grown hgrow3 (by have := hnk.size; simp; omega) (fun j hj => by cases hj; exact (hown.lt _ rfl).1)
      clear hown3 hgrow3 hown hnk hi0 hi1 hi2 hsum HS
      go_wp2
      go_roundw
      case rel => exact ⟨k + 1, by omega, by go_num, rfl, R, R2⟩
      case measure => simp [intOf]; omega
    · obtain rfl : k = s.size := by omega
      have e1 : s.data.toList.take s.size = s.data.toList := List.take_of_length_le (by simp)
      rw [e1] at hown
      have hcv := conv_back s wr g (fun j hj => by
        rw [hown.cellAt j (by simpa [bytesI] using hj)]
        simp [hj])
      clear hown e1
      go_wp2
      go_ret
      exact ⟨by simp, hnk⟩

/-- THE WALK: for every string the law answers true. -/
theorem round_any (s : ByteArray) (hm : s.size ≤ maxLen) (w : World) : Calls Yba.prog 4 #[.string s] w fun e w' => e = .returned (.bool true) ∧ Below w.heap.size w w' := by
  by_cases hs : s.size ≤ 1024
  · exact round_short s hs w
  · exact round_long s hm hs w
end Go.Proofs.Ybulkwya
