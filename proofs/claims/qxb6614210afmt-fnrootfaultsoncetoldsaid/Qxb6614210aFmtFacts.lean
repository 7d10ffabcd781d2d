/-
  THE CLOSED FACTS FOR A WALK OVER fmt.Sprintf's CALLING STOP (function 22) at two string operands; what the map of faulted nodes does.
-/
import Derived.Test.Qxb6614210aFmtText
import Derived.Stop.CallBack
import Derived.Stop.IfaceNil
import GoSem.ClaimData
import Derived.LaidEql
namespace Go.Proofs.Qxb6614210aFmt
open Go.RowKit Go.Extern.Stop Go.Stop Go.Extern

theorem call22 (args : Array Value) (w : World) : (callFunc 22 args).run Tryf.prog w = (FmtCalls.sprintf #[9, 59] #[9] args).run Tryf.prog w :=
  run_callFunc_next Tryf.func22 (by kernel_rfl) (by kernel_rfl) (by kernel_rfl) args w
theorem guardF (name : String) (w : World) : (FmtStop.guard name).run Tryf.prog w = .ok () w := by kernel_rfl
theorem nextTurns : Extern.next FmtCalls.turnsRow = some (FmtCalls.begun #[] #[]) := by kernel_rfl
def fmtS : ByteArray := ⟨#[37, 115, 32, 109, 117, 115, 116, 32, 98, 101, 32, 97, 32, 115, 116, 114, 105, 110, 103, 44, 32, 110, 111, 116, 32, 37, 115]⟩
theorem fmt0 : FmtStop.printed? fmtS 2 = some [(0, 115, false), (1, 115, false)] := by kernel_rfl
def shape9 : List UInt8 := [12, 6, 0, 0, 0, 0, 0, 0, 0, 115, 116, 114, 105, 110, 103]
theorem op9_115 (name : String) (x : ByteArray) (w : World) : (FmtStop.operand name false 115 false (.iface 9 (.string x))).run Tryf.prog w = .ok (shape9, FmtStop.pack x.data.toList) w := by kernel_rfl
theorem act9_115 (name : String) (x : Value) (w : World) : (FmtCalls.act name false 115 false (.iface 9 x)).run Tryf.prog w = .ok (.closed false) w := by kernel_rfl

/-- What F is asked. -/
def reading (s0 s1 : ByteArray) : List (List UInt8) := [fmtS.data.toList, shape9, FmtStop.pack s0.data.toList, shape9, FmtStop.pack s1.data.toList]

attribute [local go_sem] guardF op9_115 act9_115 in
set_option maxRecDepth 100000 in
/-- fmt.Sprintf's calling stop at two strings: no method is called; some text comes back; one draw. -/
theorem begun_row (F : Interp) (sb : Nat) (s0 s1 : ByteArray) (w : World) (hF : F.answers w.tape) (h0 : w.cell? ⟨sb, 0, none⟩ = some (.iface 9 (.string s0))) (h1 : w.cell? ⟨sb, 1, none⟩ = some (.iface 9 (.string s1))) :
    ∃ s, (FmtCalls.begun #[] #[] (FmtCalls.save 0 0 (.slice (some ⟨sb, 0, none⟩) 2 2) fmtS [] [(0, 115, false), (1, 115, false)])).run Tryf.prog w = .ok (.value (.string s)) w.drew := by
  have hF' := answers_open hF
  refine ⟨FmtStop.textOf (F "fmt.Sprintf" (reading s0 s1) 0), ?_⟩
  go_simp
  rfl

/-! ### The map of faulted nodes: keys are pointers -/
theorem get_map {w : World} {r : Nat} {es : Array MapEntry} {clock : Nat} (h : w.heap[r]? = some (.map es clock)) : (getObj r).run Tryf.prog w = .ok (.map es clock) w := by simp [getObj, Sem.run, h]
theorem set_map {w : World} {r : Nat} {es : Array MapEntry} {clock : Nat} (o : Obj) (h : w.heap[r]? = some (.map es clock)) : (setObj r o).run Tryf.prog w = .ok () { w with heap := w.heap.setIfInBounds r o } := by simp [setObj, Sem.run, h]
theorem key_ok (b : Bool) (nd : Option Addr) (w : World) : (Instr.checkKey b 10000 26 (.pointer nd)).run Tryf.prog w = .ok () w := by kernel_rfl
theorem lookup_empty (mb : Nat) (nd : Option Addr) (w : World) (h : w.heap[mb]? = some (.map #[] 0)) : (Instr.lookup 46 (.map (some mb)) (.pointer nd) false).run Tryf.prog w = .ok (.bool false) w := by
  have hg := get_map h
  simp [Instr.lookup, run_underlying Tryf.underlying46, hg, key_ok, Instr.findKey, Instr.findNow, run_underlying Tryf.underlying26]
/-- The map behind the first fault. -/
def once (nb : Nat) : Obj := .map #[{ key := .pointer (some ⟨nb, 0, none⟩), val := .bool true, born := 0 }] 1
theorem update_empty (mb nb : Nat) (w : World) (h : w.heap[mb]? = some (.map #[] 0)) : (Instr.mapUpdate 46 (.map (some mb)) (.pointer (some ⟨nb, 0, none⟩)) (.bool true)).run Tryf.prog w = .ok () { w with heap := w.heap.setIfInBounds mb (once nb) } := by
  have hg := get_map h
  have hs := fun o => set_map o h
  simp [Instr.mapUpdate, run_underlying Tryf.underlying46, hg, key_ok, Instr.findKey, Instr.findNow, run_underlying Tryf.underlying26, hs, once]
theorem same_ptr_in (d : Nat) (a : Addr) (w : World) : (Op.equalIn (d + 1) 26 (.pointer (some a)) (.pointer (some a))).run Tryf.prog w = .ok true w := by
  obtain ⟨j, hj⟩ : ∃ j, Tryf.prog.info? 45 = some j := Option.isSome_iff_exists.1 (by kernel_rfl)
  simp [Op.equalIn, run_underlying Tryf.underlying26, sizeOf, typeInfo, hj, run_sameAddr_same]
theorem same_ptr (a : Addr) (w : World) : (Op.equal 26 (.pointer (some a)) (.pointer (some a))).run Tryf.prog w = .ok true w := by
  simp [Op.equal, Op.maxDepth, same_ptr_in 9999 a w]
theorem lookup_once (mb nb : Nat) (w : World) (h : w.heap[mb]? = some (once nb)) : (Instr.lookup 46 (.map (some mb)) (.pointer (some ⟨nb, 0, none⟩)) false).run Tryf.prog w = .ok (.bool true) w := by
  have hg := get_map (es := #[{ key := .pointer (some ⟨nb, 0, none⟩), val := .bool true, born := 0 }]) (clock := 1) h
  simp [Instr.lookup, run_underlying Tryf.underlying46, hg, key_ok, Instr.findKey, Instr.findNow, Instr.sameNow, run_underlying Tryf.underlying26, Instr.findAsking, same_ptr]
end Go.Proofs.Qxb6614210aFmt
