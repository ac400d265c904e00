import Derived.Test.YbulkwyaRows
import Derived.WalkKit
import Derived.WalkSpells
import Derived.Below
import Derived.Deep.RegionLaw
namespace Go.Proofs.Ybulkwya
open Go.RowKit

theorem Yba.info5 : (Yba.prog.info? 5).map (fun i => (i.zero, i.size, i.bytes)) = some (some (.int .u8 0), 1, 1) := by kernel_rfl

/-- append within the capacity, as one step of a region that draws. -/
theorem step_append_fits {P : Program} {ops : Array Oper} {o : Oper} {a : Act} {w : World} {K : Act → World → Prop} {Q : Exit → Act → World → Prop} {E : Prop}
    (hg : o.guard = none) (s x : Operand) (t : TypeId) (hop : o.op = Op.call { callee := Callee.builtin Builtin.append, args := #[s, x], argTypes := #[t, t] })
    (base : Nat) (e : TypeId) (i : TypeInfo) (size : Nat) (h1 : P.underlying t = some (.slice e)) (h2 : P.info? e = some i) (h4 : i.size = size)
    (g k cap : Nat) (xs : List Value) (hs : a.eval s = .slice (some ⟨g, 0, none⟩) k cap) (hown : w.ownsRow base e size (.slice (some ⟨g, 0, none⟩) k cap) k xs) (ad : Addr) (m c : Nat) (news : List Value) (hx : a.eval x = .slice (some ad) m c) (hn : news.length = m * size)
    (hc : ∀ j u, news[j]? = some u → w.cell? (ad.add j) = some u) (h1c : ∀ u ∈ news, u.oneCell' = true) (b1 : k + m ≤ cap)
    (hK : ∀ w', w'.ownsRow base e size (.slice (some ⟨g, 0, none⟩) (k + m) cap) (k + m) (xs ++ news) → w.grownBy w' (some g) → K (a.put o.dst (.slice (some ⟨g, 0, none⟩) (k + m) cap)) w') :
    if Region.wanted o (yielded ops a.tmps) = true then Oper.wp P o a w K Q else E := by
  have hw : Region.wanted o (yielded ops a.tmps) = true := by simp [Region.wanted, hg]
  rw [if_pos hw]
  obtain ⟨w', hrun, r1, r2⟩ := run_append_fits (P := P) w base t o.type e i size h1 h2 h4 g k cap xs hown ad m c news hn hc h1c b1
  unfold Oper.wp
  simp [execOp, hop, resolve, invoke, builtin, hs, hx, hrun, Result.andThen]
  exact hK w' r1 r2

/-- The hex digit of a nibble, as its byte. -/
def hexI (x : Int) : Int := if x < 10 then 48 + x else 55 + x

theorem hexI_bound (x : Int) (h0 : 0 ≤ x) (h1 : x < 16) : 0 ≤ hexI x ∧ hexI x ≤ 255 := by unfold hexI; split <;> omega

theorem hex_index (x : Int) (h0 : 0 ≤ x) (h1 : x < 16) (w : World) : (Instr.index 9 (.string ⟨#[48, 49, 50, 51, 52, 53, 54, 55, 56, 57, 65, 66, 67, 68, 69, 70]⟩) (.int .u8 x)).run Yba.prog w = .ok (.int .u8 (hexI x)) w := by
  rw [run_index_string w 9 _ .u8 x Yba.underlying9]
  have hs : (ByteArray.mk #[48, 49, 50, 51, 52, 53, 54, 55, 56, 57, 65, 66, 67, 68, 69, 70]).size = 16 := rfl
  rw [dif_pos ⟨h0, by rw [hs]; omega⟩]
  have hx : x = 0 ∨ x = 1 ∨ x = 2 ∨ x = 3 ∨ x = 4 ∨ x = 5 ∨ x = 6 ∨ x = 7 ∨ x = 8 ∨ x = 9 ∨ x = 10 ∨ x = 11 ∨ x = 12 ∨ x = 13 ∨ x = 14 ∨ x = 15 := by omega
  rcases hx with rfl | rfl | rfl | rfl | rfl | rfl | rfl | rfl | rfl | rfl | rfl | rfl | rfl | rfl | rfl | rfl <;> rfl

theorem and15_all : ∀ n : Fin 256, bits BinOp.and IntKind.u8 (n.val : Int) 15 = (n.val : Int) % 16 := by decide +kernel
theorem and15 (n : Nat) (h : n < 256) : bits BinOp.and IntKind.u8 (n : Int) 15 = (n : Int) % 16 := and15_all ⟨n, h⟩

/-- What percentEscapes gives for one byte, and for a list of bytes. -/
def esc1 (c : UInt8) : List Int := [37, hexI ((c.toNat : Int) / 16), hexI ((c.toNat : Int) % 16)]
def escs (l : List UInt8) : List Int := l.flatMap esc1

theorem escs_length (l : List UInt8) : (escs l).length = 3 * l.length := by
  induction l with
  | nil => rfl
  | cons c l ih => simp only [escs, List.flatMap_cons, List.length_append] at ih ⊢; rw [ih]; simp [esc1]; omega

theorem escs_snoc (s : ByteArray) (k : Nat) (h : k < s.size) : escs (s.data.toList.take (k + 1)) = escs (s.data.toList.take k) ++ [37, hexI ((s[k].toNat : Int) / 16), hexI ((s[k].toNat : Int) % 16)] := by
  rw [List.take_succ_eq_append_getElem (by simpa using h)]
  simp only [escs, List.flatMap_append, List.flatMap_cons, List.flatMap_nil, List.append_nil]
  rfl

theorem escs_bound (l : List UInt8) : ∀ n ∈ escs l, 0 ≤ n ∧ n ≤ 255 := by
  intro n hn
  simp only [escs, List.mem_flatMap, esc1] at hn
  obtain ⟨c, _, hc⟩ := hn
  have hu : c.toNat < 256 := UInt8.toNat_lt _
  simp only [List.mem_cons, List.not_mem_nil, or_false] at hc
  rcases hc with rfl | rfl | rfl
  · omega
  · exact hexI_bound _ (by omega) (by omega)
  · exact hexI_bound _ (by omega) (by omega)

theorem escs_at (l : List UInt8) : ∀ i (h : i < l.length), (escs l)[3 * i]? = some 37 ∧ (escs l)[3 * i + 1]? = some (hexI ((l[i].toNat : Int) / 16)) ∧ (escs l)[3 * i + 2]? = some (hexI ((l[i].toNat : Int) % 16)) := by
  induction l with
  | nil => intro i h; simp at h
  | cons c l ih =>
    intro i h
    cases i with
    | zero => exact ⟨rfl, rfl, rfl⟩
    | succ i =>
      have := ih i (by simpa using h)
      have e : escs (c :: l) = 37 :: hexI ((c.toNat : Int) / 16) :: hexI ((c.toNat : Int) % 16) :: escs l := rfl
      rw [e, show 3 * (i + 1) = 3 * i + 1 + 1 + 1 by omega, show 3 * i + 1 + 1 + 1 + 1 = 3 * i + 1 + 1 + 1 + 1 from rfl, show 3 * i + 1 + 1 + 1 + 2 = 3 * i + 2 + 1 + 1 + 1 by omega]
      simp only [List.getElem?_cons_succ]
      exact this

/-- 'string(b)' where b's cells are bytes. -/
theorem conv_any (w : World) (g cap : Nat) (ns : List Int) (hb : ∀ n ∈ ns, 0 ≤ n ∧ n ≤ 255) (hc : ∀ j (hj : j < ns.length), w.cell? ⟨g, j, none⟩ = some (.int .u8 ns[j])) :
    ∃ got : ByteArray, (convert 25 9 (.slice (some ⟨g, 0, none⟩) ns.length cap)).run Yba.prog w = .ok (.string got) w ∧ got.data.toList = ns.map (fun n => UInt8.ofNat n.toNat) := by
  have h := run_convert_bytes_back (P := Yba.prog) w 25 9 5 ⟨g, 0, none⟩ cap (ns.map (fun n => UInt8.ofNat n.toNat)) Yba.underlying25 Yba.underlying5 Yba.underlying9 (fun j hj => by
    simp only [List.length_map] at hj
    rw [Addr.add_lit, Nat.zero_add, hc j hj]
    simp only [List.getElem_map]
    have := hb ns[j] (List.getElem_mem _)
    congr 2
    simp only [UInt8.toNat_ofNat']
    omega)
  simp only [List.length_map] at h
  exact ⟨_, h, by simp⟩

set_option maxHeartbeats 1600000 in
/-- percentEscapes: three bytes a byte. -/
theorem esc_any (s : ByteArray) (hs : s.size ≤ 1024) (w : World) :
    Calls Yba.prog 5 #[.string s] w fun e w' => ∃ got : ByteArray, e = .returned (.string got) ∧ got.data.toList = (escs s.data.toList).map (fun n => UInt8.ofNat n.toNat) ∧ Below w.heap.size w w' := by
  obtain ⟨i0, hi, hz0, hz1, hz2⟩ := info_parts Yba.info5
  go_enter Yba.func5, Yba.ntmps5
  go_wp2_with (at_make; refine wpList_make_own _ rfl _ _ 25 rfl w.heap.size 5 i0 (.int .u8 0) 1 Yba.underlying25 hi hz0 hz1 _ _ _ (3 * s.size) rfl rfl (by omega) ?b2 ?b3 (Nat.le_refl _) ?_)
  case b2 => rw [hz2]; omega
  case b3 => unfold maxLen; omega
  intro w0 hown0 hgrow0
  go_wp2
  go_loopw [3, 11] (fun v i wr => ∃ (k : Nat), k ≤ s.size ∧ i = .int .i64 k ∧ v = .slice (some ⟨w.heap.size, 0, none⟩) (3 * k) (3 * s.size) ∧
      wr.ownsRow w.heap.size 5 1 (.slice (some ⟨w.heap.size, 0, none⟩) (3 * k) (3 * s.size)) (3 * k) ((escs (s.data.toList.take k)).map (Value.int .u8)) ∧ Below w.heap.size w wr)
    (fun _ i _ => s.size - (intOf i).toNat)
  case atStart => exact ⟨0, Nat.zero_le _, rfl, rfl, hown0, (Below.refl _ _).grown hgrow0 (Nat.le_refl _) (fun k h => by cases h)⟩
  case round =>
    obtain ⟨k, hk, rfl, rfl, hown, hnx⟩ := hrel
    by_cases hlt : k < s.size
    · have hu : s[k].toNat < 256 := UInt8.toNat_lt _
      have hx1 := hex_index ((s[k].toNat : Int) / 16) (by omega) (by omega)
      have hx2 := hex_index ((s[k].toNat : Int) % 16) (by omega) (by omega)
      have hand := and15 s[k].toNat hu
      have HS : Hid _ := escs_snoc s k hlt
      go_wp2
      go_region_law (refine step_append_fits rfl (.tmp 14) (.tmp 25) 25 rfl w.heap.size 5 i0 1 Yba.underlying25 hi hz1 w.heap.size (3 * k) (3 * s.size) _ (by simp [Act.eval]) (hown.drew.alloc _) ⟨wr.heap.size, 0, none⟩ 3 3 [.int .u8 37, .int .u8 (hexI ((s[k].toNat : Int) / 16)), .int .u8 (hexI ((s[k].toNat : Int) % 16))] (by simp [Act.eval]) rfl (by intro t u ht; match t, ht with | 0, ht => (simp at ht; subst ht; simp [Addr.add]) | 1, ht => (simp at ht; subst ht; simp [Addr.add]) | 2, ht => (simp at ht; subst ht; simp [Addr.add])) (by intro u hu; simp at hu; rcases hu with rfl | rfl | rfl <;> rfl) (by omega) ?_; intro w1 hown1 hgrow1)
      all_goals
        have R : w1.ownsRow w.heap.size 5 1 (.slice (some ⟨w.heap.size, 0, none⟩) (3 * (k + 1)) (3 * s.size)) (3 * (k + 1)) ((escs (s.data.toList.take (k + 1))).map (Value.int .u8)) := by
          rw [HS.out, List.map_append]
          exact hown1
        have R2 := ((hnx.drew.alloc hnx.size _)).grown hgrow1 (by have := hnx.size; simp; omega) (fun j hj => by cases hj; exact Nat.le_refl _)
        clear hown1 hgrow1 hown hnx hx1 hx2 hand HS
        go_wp2
        go_roundw
        case rel => exact ⟨k + 1, by omega, by go_num, rfl, R, R2⟩
        case measure => simp [intOf]; omega
    · obtain rfl : k = s.size := by omega
      have e1 : s.data.toList.take s.size = s.data.toList := List.take_of_length_le (by simp)
      rw [e1] at hown
      have hl : (escs s.data.toList).length = 3 * s.size := by rw [escs_length]; simp
      obtain ⟨got, hcv, hgot⟩ := conv_any wr w.heap.size (3 * s.size) (escs s.data.toList) (escs_bound _) (fun j hj => by
        rw [hown.cellAt j (by omega)]
        simp [hj])
      rw [hl] at hcv
      have HG : Hid _ := hgot
      clear hgot hl e1 hown
      go_wp2
      go_ret
      exact ⟨got, rfl, HG.out, hnx⟩
end Go.Proofs.Ybulkwya
