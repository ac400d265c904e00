import Derived.Test.YbulkwyaFmtResolve
import Derived.Stop.CallBack
import Derived.Stop.IfaceNil
namespace Go.Proofs.YbulkwyaFmt
open Go.RowKit Go.Extern.Stop Go.Stop Go.Extern

@[go_sem] theorem call15 (args : Array Value) (w : World) : (callFunc 15 args).run Ybaf.prog w = (FmtCalls.errorf #[9, 66] #[32] args).run Ybaf.prog w :=
  run_callFunc_next Ybaf.func15 (by kernel_rfl) (by kernel_rfl) (by kernel_rfl) args w
@[go_sem] theorem fguard (name : String) (w : World) : (FmtStop.guard name).run Ybaf.prog w = .ok () w := by kernel_rfl
theorem nextTurns : Extern.next FmtCalls.turnsRow = some (FmtCalls.begun #[] #[]) := by kernel_rfl
theorem nextReturned : Extern.next FmtCalls.returnedRow = some (FmtCalls.returned #[] #[]) := by kernel_rfl
@[go_sem] theorem fmt0 : FmtStop.printed? ⟨#[37, 115, 58, 32, 37, 119]⟩ 2 = some [(0, 115, false), (1, 119, false)] := by kernel_rfl
@[go_sem] theorem fmt0r (w : World) : (FmtDoors.printed ⟨#[37, 115, 58, 32, 37, 119]⟩ 2).run Ybaf.prog w = .ok [(0, 115, false), (1, 119, false)] w := by kernel_rfl
def shape9 : List UInt8 := [12, 6, 0, 0, 0, 0, 0, 0, 0, 115, 116, 114, 105, 110, 103]
@[go_sem] theorem act9_115w (name : String) (x : Value) (w : World) : (FmtCalls.act name true 115 false (.iface 9 x)).run Ybaf.prog w = .ok (.closed true) w := by kernel_rfl
@[go_sem] theorem op9_115w (name : String) (x : ByteArray) (w : World) : (FmtStop.operand name true 115 false (.iface 9 (.string x))).run Ybaf.prog w = .ok (shape9, FmtStop.pack x.data.toList) w := by kernel_rfl
@[go_sem] theorem act43_119w (name : String) (x : Value) (w : World) : (FmtCalls.act name true 119 false (.iface 43 x)).run Ybaf.prog w = .ok (.call true) w := by kernel_rfl
@[go_sem] theorem isError43 (w : World) : (FmtDoors.textMethod 43 "Error").run Ybaf.prog w = .ok true w := by kernel_rfl
theorem invokeError43 (x : Value) (w : World) : (invoke (.fn (.method "Error") #[]) #[.iface 43 x]).run Ybaf.prog w = .ok (.enter 40 #[x]) w := by kernel_rfl
@[go_sem] theorem str43 (w : World) : (typeStr 43).run Ybaf.prog w = .ok Ybaf.t43.str w := by kernel_rfl
@[go_sem] theorem ptr68 (w : World) : (FmtStop.ptrTo "fmt.wrapError").run Ybaf.prog w = .ok 68 w := by kernel_rfl
@[go_sem] theorem elem68 (w : World) : (elemOf 68).run Ybaf.prog w = .ok 109 w := by kernel_rfl

/-- The error's own text. -/
theorem error40 (x : Value) (w : World) : Calls Ybaf.prog 40 #[x] w fun e w' => e = .returned (.string ⟨#[122, 122, 115, 49, 49, 53, 55, 99, 32, 102, 97, 105, 108, 117, 114, 101]⟩) ∧ w = w' := by
  go_enter Ybaf.func40, Ybaf.ntmps40
  go_wp2
  go_ret
  exact ⟨rfl, rfl⟩

set_option maxHeartbeats 1600000 in
set_option maxRecDepth 100000 in
/-- fmt.Errorf of a string and the error, wrapped: a new *fmt.wrapError that holds the error. -/
theorem errorf_any (v : Nat) (name : ByteArray) (eb : Addr) (w : World) (h0 : w.cell? ⟨v, 0, none⟩ = some (.iface 9 (.string name))) (h1 : w.cell? ⟨v, 1, none⟩ = some (.iface 43 (.pointer (some eb)))) :
    Calls Ybaf.prog 8 #[.string ⟨#[37, 115, 58, 32, 37, 119]⟩, .slice (some ⟨v, 0, none⟩) 2 2] w fun e w' => e = .returned (.iface 68 (.pointer (some ⟨w.heap.size, 0, none⟩))) ∧ ∃ text, w' = (w.alloc (.cells #[.string text, .iface 43 (.pointer (some eb))] 109)).drew := by
  go_enter Ybaf.func8, Ybaf.ntmps8
  go_wp2
  apply rows_call nextTurns
  case hr =>
    go_simp
    exact ⟨⟨rfl, rfl, rfl⟩, rfl⟩
  case hi => exact invokeError43 _ _
  case hc =>
    refine (error40 _ _).mono fun e w₃ ⟨he, hx⟩ => ?_
    subst he; subst hx
    apply rows_value nextReturned
    case hr =>
      go_simp
      exact ⟨rfl, rfl⟩
    case h =>
      go_wp2
      go_ret
      exact ⟨rfl, _, rfl⟩

/-- The stand-in document's resolve, with its error. -/
theorem zz_err (zb ab n : Nat) (eb : Addr) (path got : ByteArray) (w : World) (hz : w.heap[zb]? = some (.cells #[.slice (some ⟨ab, 0, none⟩) n n, .iface 43 (.pointer (some eb)), .int .i64 0, .string got] 34 (0, 0))) :
    Calls Ybaf.prog 38 #[.pointer (some ⟨zb, 0, none⟩), .string path] w fun e w' => e = .returned (.tuple #[.slice (some ⟨ab, 0, none⟩) n n, .iface 43 (.pointer (some eb))]) ∧ ∃ nq, w' = ((w.setCell ⟨zb, 2, none⟩ (.int .i64 1)).setCell ⟨zb, 3, none⟩ (.string path)).drewN nq := by
  have c0 : w.cell? ⟨zb, 0, none⟩ = some (.slice (some ⟨ab, 0, none⟩) n n) := by rw [cell_of_row _ _ _ _ _ _ hz]; rfl
  have c1 : w.cell? ⟨zb, 1, none⟩ = some (.iface 43 (.pointer (some eb))) := by rw [cell_of_row _ _ _ _ _ _ hz]; rfl
  have c2 : w.cell? ⟨zb, 2, none⟩ = some (.int .i64 0) := by rw [cell_of_row _ _ _ _ _ _ hz]; rfl
  have c3 : w.cell? ⟨zb, 3, none⟩ = some (.string got) := by rw [cell_of_row _ _ _ _ _ _ hz]; rfl
  have f2 := frozen_of_row _ zb 2 _ _ hz
  have f3 := frozen_of_row _ zb 3 _ _ hz
  clear hz
  go_enter Ybaf.func38, Ybaf.ntmps38
  go_wp2
  go_quiet (fail)
  go_wp2
  go_ret2
  exact ⟨rfl, nq, rfl⟩

set_option maxHeartbeats 1600000 in
set_option maxRecDepth 100000 in
/-- Resolve over the stand-in, its error wrapped. -/
theorem resolve_err (db zb ab n : Nat) (eb : Addr) (name path got : ByteArray) (w : World) (hne : db ≠ zb) (hd : w.heap[db]? = some (.cells #[.string name, .iface 30 (.pointer (some ⟨zb, 0, none⟩))] 39 (0, 0))) (hz : w.heap[zb]? = some (.cells #[.slice (some ⟨ab, 0, none⟩) n n, .iface 43 (.pointer (some eb)), .int .i64 0, .string got] 34 (0, 0))) :
    Calls Ybaf.prog 5 #[.pointer (some ⟨db, 0, none⟩), .string path] w fun e w' => ∃ w1, e = .returned (.tuple #[.slice none 0 0, .iface 68 (.pointer (some ⟨w1.heap.size + 1, 0, none⟩))]) ∧ Asked w w1 zb (.slice (some ⟨ab, 0, none⟩) n n) (.iface 43 (.pointer (some eb))) path ∧
      Below w1.heap.size w1 w' ∧ w'.cell? ⟨w1.heap.size + 1, 1, none⟩ = some (.iface 43 (.pointer (some eb))) := by
  have c0 : w.cell? ⟨db, 1, none⟩ = some (.iface 30 (.pointer (some ⟨zb, 0, none⟩))) := by rw [cell_of_row _ _ _ _ _ _ hd]; rfl
  have Hz : Hid _ := hz
  have Hd : Hid _ := hd
  clear hd hz
  go_enter Ybaf.func5, Ybaf.ntmps5
  go_wp2_with fail
  refine upon_enter 38 #[.pointer (some ⟨zb, 0, none⟩), .string path] w (by kernel_rfl) ?_
  refine (zz_err zb ab n eb path got w Hz.out).mono ?_
  rintro e w1 ⟨rfl, nq, hw⟩
  have hA : Asked w w1 zb (.slice (some ⟨ab, 0, none⟩) n n) (.iface 43 (.pointer (some eb))) path := by rw [hw]; exact asked_mk Hz.out nq
  have hdn : w1.cell? ⟨db, 0, none⟩ = some (.string name) := by rw [cell_of_row _ _ _ _ _ _ ((hA.rest db hne).trans Hd.out)]; rfl
  clear hw c0
  go_wp2_with fail
  refine (errorf_any w1.heap.size name eb _ (by rw [World.cell?_alloc_at _ _ _ _ rfl]; rfl) (by rw [World.cell?_alloc_at _ _ _ _ rfl]; rfl)).mono ?_
  rintro e w2 ⟨rfl, text, hw2⟩
  have hb : Below w1.heap.size w1 w2 := by rw [hw2]; exact (((Below.refl _ w1).alloc (Nat.le_refl _) _).alloc (by simp) _).drew
  have hc : w2.cell? ⟨w1.heap.size + 1, 1, none⟩ = some (.iface 43 (.pointer (some eb))) := by rw [hw2, World.cell?_drew, World.cell?_alloc_at _ _ _ _ (by simp)]; rfl
  clear hw2
  go_wp2
  go_ret2
  exact ⟨w1, by simp, hA, hb, hc⟩
end Go.Proofs.YbulkwyaFmt
