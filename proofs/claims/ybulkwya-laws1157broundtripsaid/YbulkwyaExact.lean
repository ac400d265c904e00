import Derived.Test.YbulkwyaEsc
import Derived.ProofKit
import Derived.OpenShut
import Derived.ShutString
import Derived.Deep.QuietTactic
import Derived.BigQuiet
namespace Go.Proofs.Ybulkwya
open Go.RowKit

theorem hex_any (d : Int) (h0 : 0 ≤ d) (h1 : d < 16) (w : World) : Calls Yba.prog 6 #[.int .u8 d] w fun e w' => e = .returned (.int .u8 (hexI d)) ∧ w' = w := by
  by_cases hd : d < 10
  · have e : hexI d = 48 + d := by simp [hexI, hd]
    rw [e]
    go_enter Yba.func6, Yba.ntmps6
    go_wp2
    go_ret
    exact ⟨rfl, rfl⟩
  · have e : hexI d = 65 + (d - 10) := by simp [hexI, hd]; omega
    rw [e]
    go_enter Yba.func6, Yba.ntmps6
    go_wp2
    go_ret
    exact ⟨rfl, rfl⟩

/-- A byte of the escapes, by its index. -/
theorem got_index (s got : ByteArray) (hg : got.data.toList = (escs s.data.toList).map (fun n => UInt8.ofNat n.toNat)) (j : Nat) (x : Int) (hx : (escs s.data.toList)[j]? = some x) (i : Int) (hi : i = (j : Int)) (w : World) :
    (Instr.index 9 (.string got) (.int .i64 i)).run Yba.prog w = .ok (.int .u8 x) w := by
  subst hi
  have hj := (List.getElem?_eq_some_iff.1 hx).1
  have hl : got.size = (escs s.data.toList).length := by
    have := congrArg List.length hg
    simpa using this
  rw [run_index_string w 9 _ .i64 _ Yba.underlying9, dif_pos ⟨by omega, by omega⟩]
  have hb := escs_bound s.data.toList x (List.mem_of_getElem? hx)
  have e1 : got.data.toList[j]? = some (UInt8.ofNat x.toNat) := by rw [hg, List.getElem?_map, hx]; rfl
  have e2 : got[((j : Int)).toNat]'(by simp; omega) = UInt8.ofNat x.toNat := by
    have : got.data.toList[j]? = some (got[j]'(by omega)) := by
      rw [List.getElem?_eq_getElem (by simpa using (by omega : j < got.size))]; rfl
    rw [this] at e1
    simpa using e1
  rw [e2]
  congr 2
  simp only [UInt8.toNat_ofNat']
  omega

theorem got_size (s got : ByteArray) (hg : got.data.toList = (escs s.data.toList).map (fun n => UInt8.ofNat n.toNat)) : got.size = 3 * s.size := by
  have := congrArg List.length hg
  simpa [escs_length] using this

theorem wrap_ok (x : Int) (h0 : 0 ≤ x) (h1 : x ≤ 10000) : IntKind.i64.wrap x = x := by
  rw [IntKind.wrap_i64]
  omega

theorem wrap_u8 (x : Int) (h0 : 0 ≤ x) (h1 : x ≤ 255) : IntKind.u8.wrap x = x := by
  simp [IntKind.wrap, IntKind.bits, IntKind.signed]
  omega

theorem below_drewN {B : Nat} {a w : World} (h : Below B a w) (n : Nat) : Below B a (w.drewN n) := h.trans ⟨rfl, rfl, rfl, Nat.le_refl _, fun _ _ => rfl⟩

theorem exact_long (s : ByteArray) (hm : s.size ≤ maxLen) (hs : ¬ s.size ≤ 1024) (w : World) : Calls Yba.prog 3 #[.string s] w fun e w' => e = .returned (.bool true) ∧ Below w.heap.size w w' := by
  unfold maxLen at hm
  have h : (1024 : Int) < (s.size : Int) := by omega
  go_enter Yba.func3, Yba.ntmps3
  go_wp2
  go_ret
  exact ⟨rfl, Below.refl _ _⟩

set_option maxHeartbeats 1600000 in
theorem exact_short (s : ByteArray) (hs : s.size ≤ 1024) (w : World) : Calls Yba.prog 3 #[.string s] w fun e w' => e = .returned (.bool true) ∧ Below w.heap.size w w' := by
  go_enter Yba.func3, Yba.ntmps3
  go_wp2_with fail
  refine (esc_any s hs w).mono ?_
  rintro e w1 ⟨got, rfl, hg, hnx⟩
  have hgs : (got.size : Int) = 3 * (s.size : Int) := by have := got_size s got hg; omega
  have HG : Hid _ := hg
  clear hg
  go_wp2
  go_loopw [4] (fun i wr => ∃ k : Nat, k ≤ s.size ∧ i = .int .i64 k ∧ Below w.heap.size w wr) (fun i _ => s.size - (intOf i).toNat)
  case atStart => exact ⟨0, Nat.zero_le _, rfl, hnx⟩
  case round =>
    obtain ⟨k, hk, rfl, hnk⟩ := hrel
    by_cases hlt : k < s.size
    · have hu : s[k].toNat < 256 := UInt8.toNat_lt _
      obtain ⟨a0, a1, a2⟩ := escs_at s.data.toList k (by simpa using hlt)
      have hi0 := got_index s got HG.out _ _ a0 (3 * (k : Int)) (by omega)
      have hi1 : ∀ w, (Instr.index 9 (.string got) (.int .i64 (3 * (k : Int) + 1))).run Yba.prog w = .ok (.int .u8 (hexI ((s[k].toNat : Int) / 16))) w := got_index s got HG.out _ _ a1 (3 * (k : Int) + 1) (by omega)
      have hi2 : ∀ w, (Instr.index 9 (.string got) (.int .i64 (3 * (k : Int) + 2))).run Yba.prog w = .ok (.int .u8 (hexI ((s[k].toNat : Int) % 16))) w := got_index s got HG.out _ _ a2 (3 * (k : Int) + 2) (by omega)
      have hw0 := wrap_ok (3 * (k : Int)) (by omega) (by omega)
      have hw1 := wrap_ok (3 * (k : Int) + 1) (by omega) (by omega)
      have hw2 := wrap_ok (3 * (k : Int) + 2) (by omega) (by omega)
      have hw3 := wrap_u8 ((s[k].toNat : Int) % 16) (by omega) (by omega)
      have hw4 : (s[k].toNat : Int).tmod 16 = (s[k].toNat : Int) % 16 := Int.tmod_eq_emod_of_nonneg (by omega)
      clear a0 a1 a2
      go_wp2
      go_quiet ((go_at_call 6; exact Calls.quiet_of_same (hex_any _ (by omega) (by omega) _)))
      have hn2 : Below w.heap.size w (wr.drewN nq) := below_drewN hnk nq
      obtain ⟨wb, hwb⟩ : ∃ wb, wb = wr.drewN nq := ⟨_, rfl⟩
      rw [← hwb] at hn2 ⊢
      clear hwb hnk
      go_wp2
      go_quiet ((go_at_call 6; exact Calls.quiet_of_same (hex_any _ (by omega) (by omega) _)))
      have hn3 : Below w.heap.size w (wb.drewN nq) := below_drewN hn2 nq
      obtain ⟨wc, hwc⟩ : ∃ wc, wc = wb.drewN nq := ⟨_, rfl⟩
      rw [← hwc] at hn3 ⊢
      clear hwc hn2
      go_wp2
      go_roundw
      case rel => exact ⟨k + 1, by omega, by go_num, hn3⟩
      case measure => simp [intOf]; omega
    · go_wp2
      go_ret
      exact ⟨rfl, hnk⟩

/-- THE WALK: for every string the law answers true. -/
theorem exact_any (s : ByteArray) (hm : s.size ≤ maxLen) (w : World) : Calls Yba.prog 3 #[.string s] w fun e w' => e = .returned (.bool true) ∧ Below w.heap.size w w' := by
  by_cases hs : s.size ≤ 1024
  · exact exact_short s hs w
  · exact exact_long s hm hs w
end Go.Proofs.Ybulkwya
