/-
  THE DECODER: what its cells hold, what a byte slice holds, the frames; fail and take.
-/
import Derived.Test.Qxb6614386aRows
import Derived.WalkKit
import Derived.WalkSpells
import Derived.WalkLawsBesides
import Derived.Below
import Derived.Lib.LazyBuf
namespace Go.Proofs.Qxb6614386a
open Go.RowKit
set_option linter.unusedVariables false

theorem eql22 (w : World) (a : Option Addr) (l c : Nat) : (binOp .eql 22 (.slice a l c) (.slice none 0 0)).run Try.prog w = .ok (.bool a.isNone) w := Go.run_eql_slice_nil w 22 5 a l c Try.underlying22
theorem neq22 (w : World) (a : Option Addr) (l c : Nat) : (binOp .neq 22 (.slice a l c) (.slice none 0 0)).run Try.prog w = .ok (.bool (!a.isNone)) w := Go.run_neq_slice_nil w 22 5 a l c Try.underlying22

/-- A decoder at block db: its slice and its error. -/
structure DecC (w : World) (db : Nat) (sv ev : Value) : Prop where
  c0 : w.cell? ⟨db, 0, none⟩ = some sv
  c1 : w.cell? ⟨db, 1, none⟩ = some ev
  f0 : w.frozen? ⟨db, 0, none⟩ = false
  f1 : w.frozen? ⟨db, 1, none⟩ = false
  none2 : ∀ i, 2 ≤ i → w.cell? ⟨db, i, none⟩ = none

/-- All old blocks but db are as they were. -/
structure Chg (db : Nat) (w w' : World) : Prop where
  os : w'.os = w.os
  tape : w'.tape = w.tape
  output : w'.output = w.output
  size : w.heap.size ≤ w'.heap.size
  block : ∀ k, k < w.heap.size → k ≠ db → w'.heap[k]? = w.heap[k]?
theorem Chg.refl (db : Nat) (w : World) : Chg db w w := ⟨rfl, rfl, rfl, Nat.le_refl _, fun _ _ _ => rfl⟩
theorem Chg.trans {db : Nat} {w w' w'' : World} (h : Chg db w w') (h' : Chg db w' w'') : Chg db w w'' :=
  ⟨h'.os.trans h.os, h'.tape.trans h.tape, h'.output.trans h.output, Nat.le_trans h.size h'.size, fun k h1 h2 => (h'.block k (Nat.lt_of_lt_of_le h1 h.size) h2).trans (h.block k h1 h2)⟩
theorem Chg.set (db i : Nat) (w : World) (v : Value) : Chg db w (w.setCell ⟨db, i, none⟩ v) := ⟨rfl, rfl, rfl, by simp, fun k _ h2 => Below.heap_setCell _ _ _ _ h2⟩
theorem Chg.of_below {db : Nat} {w w' : World} (h : Below w.heap.size w w') : Chg db w w' := ⟨h.os, h.tape, h.output, h.size, fun k h1 _ => h.block k h1⟩
theorem Chg.below {db B : Nat} {w w' : World} (h : Chg db w w') (hB : B ≤ w.heap.size) (hd : B ≤ db) : Below B w w' := ⟨h.os, h.tape, h.output, h.size, fun k hk => h.block k (by omega) (by omega)⟩

theorem Chg.alloc {db : Nat} {w w' : World} (h : Chg db w w') (o : Obj) : Chg db w (w'.alloc o) := h.trans (Chg.of_below ((Below.refl _ _).alloc (Nat.le_refl _) o))

theorem DecC.set0 {w : World} {db : Nat} {sv ev : Value} (h : DecC w db sv ev) (u : Value) : DecC (w.setCell ⟨db, 0, none⟩ u) db u ev :=
  ⟨World.cell?_setCell_same' _ _ _ (by rw [h.c0]; rfl), (World.cell?_setCell_other _ _ _ _ (by intro e; cases e)).trans h.c1, by simpa using h.f0, by simpa using h.f1,
   fun i hi => (World.cell?_setCell_other _ _ _ _ (by intro e; cases e; omega)).trans (h.none2 i hi)⟩
theorem DecC.set1 {w : World} {db : Nat} {sv ev : Value} (h : DecC w db sv ev) (u : Value) : DecC (w.setCell ⟨db, 1, none⟩ u) db sv u :=
  ⟨(World.cell?_setCell_other _ _ _ _ (by intro e; cases e)).trans h.c0, World.cell?_setCell_same' _ _ _ (by rw [h.c1]; rfl), by simpa using h.f0, by simpa using h.f1,
   fun i hi => (World.cell?_setCell_other _ _ _ _ (by intro e; cases e; omega)).trans (h.none2 i hi)⟩
theorem DecC.of_below {w w' : World} {db : Nat} {sv ev : Value} (h : DecC w db sv ev) (hb : Below w.heap.size w w') : DecC w' db sv ev := by
  have hlt : db < w.heap.size := World.block_lt_of_cell? _ _ h.c0
  exact ⟨(hb.cell (p := ⟨db, 0, none⟩) hlt).trans h.c0, (hb.cell (p := ⟨db, 1, none⟩) hlt).trans h.c1, (hb.frozen (p := ⟨db, 0, none⟩) hlt).trans h.f0, (hb.frozen (p := ⟨db, 1, none⟩) hlt).trans h.f1, fun i hi => (hb.cell (p := ⟨db, i, none⟩) hlt).trans (h.none2 i hi)⟩
theorem DecC.alloc {w : World} {db : Nat} {sv ev : Value} (h : DecC w db sv ev) (o : Obj) : DecC (w.alloc o) db sv ev := h.of_below ((Below.refl _ _).alloc (Nat.le_refl _) o)

set_option maxHeartbeats 1000000 in
set_option maxRecDepth 100000 in
theorem fail_live (db : Nat) (sv : Value) (w : World) (h : DecC w db sv .nilIface) :
    Calls Try.prog 27 #[.pointer (some ⟨db, 0, none⟩)] w fun e w' => e = .returned (.tuple #[]) ∧ Chg db w w' ∧ ∃ x y, DecC w' db (.slice none 0 0) (.iface x y) := by
  have H : Hid _ := h
  obtain ⟨c0, c1, f0, f1, n2⟩ := h
  have hlt : db < w.heap.size := World.block_lt_of_cell? _ _ c0
  go_enter Try.func27, Try.ntmps27
  go_wp2
  go_end0
  exact ⟨rfl, ((Chg.set _ _ _ _).trans (Chg.set _ _ _ _)).alloc _, _, _, ((H.out.set1 _).set0 _).alloc _⟩

set_option maxHeartbeats 1000000 in
set_option maxRecDepth 100000 in
theorem fail_dead (db : Nat) (sv : Value) (x : TypeId) (y : Value) (w : World) (h : DecC w db sv (.iface x y)) :
    Calls Try.prog 27 #[.pointer (some ⟨db, 0, none⟩)] w fun e w' => e = .returned (.tuple #[]) ∧ Chg db w w' ∧ ∃ x y, DecC w' db (.slice none 0 0) (.iface x y) := by
  have H : Hid _ := h
  obtain ⟨c0, c1, f0, f1, n2⟩ := h
  have hlt : db < w.heap.size := World.block_lt_of_cell? _ _ c0
  go_enter Try.func27, Try.ntmps27
  go_wp2
  go_end0
  exact ⟨rfl, Chg.set _ _ _ _, _, _, H.out.set0 _⟩

/-- The decoder fails at what it is asked for: it has failed before, or it holds too little. -/
def Bad (n k : Nat) (ev : Value) : Prop := (ev = .nilIface ∧ n < k) ∨ ∃ x y, ev = .iface x y

set_option maxHeartbeats 1000000 in
set_option maxRecDepth 100000 in
theorem take_bad (db : Nat) (a : Option Addr) (n c k : Nat) (ev : Value) (w : World) (h : DecC w db (.slice a n c) ev) (hb : Bad n k ev) :
    Calls Try.prog 28 #[.pointer (some ⟨db, 0, none⟩), .int .i64 k] w fun e w' => e = .returned (.slice none 0 0) ∧ Chg db w w' ∧ ∃ x y, DecC w' db (.slice none 0 0) (.iface x y) := by
  rcases hb with ⟨rfl, hlt⟩ | ⟨x, y, rfl⟩
  · have hcon := fail_live db _ w h
    obtain ⟨c0, c1, f0, f1, n2⟩ := h
    have hz : (n : Int) < (k : Int) := by omega
    go_enter Try.func28, Try.ntmps28
    go_wp2_with fail
    refine hcon.mono ?_
    rintro e w' ⟨rfl, hC, x, y, hD⟩
    go_wp2
    go_ret
    exact ⟨rfl, hC, x, y, hD⟩
  · have hcon := fail_dead db _ x y w h
    obtain ⟨c0, c1, f0, f1, n2⟩ := h
    go_enter Try.func28, Try.ntmps28
    go_wp2_with fail
    refine hcon.mono ?_
    rintro e w' ⟨rfl, hC, x, y, hD⟩
    go_wp2
    go_ret
    exact ⟨rfl, hC, x, y, hD⟩

set_option maxHeartbeats 1000000 in
set_option maxRecDepth 100000 in
theorem take_ok (db b o n c k : Nat) (w : World) (h : DecC w db (.slice (some ⟨b, o, none⟩) n c) .nilIface) (hk : k ≤ n) (hn : n ≤ c) (hc : c ≤ maxLen) :
    Calls Try.prog 28 #[.pointer (some ⟨db, 0, none⟩), .int .i64 k] w fun e w' => e = .returned (.slice (some ⟨b, o, none⟩) k k) ∧ Chg db w w' ∧ ∃ o', (k < n → o' = o + k) ∧ DecC w' db (.slice (some ⟨b, o', none⟩) (n - k) (c - k)) .nilIface := by
  have H : Hid _ := h
  obtain ⟨c0, c1, f0, f1, n2⟩ := h
  unfold maxLen at hc
  have hz : ¬ (n : Int) < (k : Int) := by omega
  by_cases hck : c = k
  · subst hck
    go_enter Try.func28, Try.ntmps28
    go_wp2
    go_ret
    exact ⟨rfl, Chg.set _ _ _ _, o, fun h => by omega, by simpa using H.out.set0 _⟩
  · go_enter Try.func28, Try.ntmps28
    go_wp2
    go_ret
    exact ⟨rfl, Chg.set _ _ _ _, o + k, fun _ => rfl, H.out.set0 _⟩

/-- The signed number that the first four bytes spell, the greatest first. -/
def beU (xs : List Int) : Int := xs.getD 0 0 * 16777216 + xs.getD 1 0 * 65536 + xs.getD 2 0 * 256 + xs.getD 3 0
def be (xs : List Int) : Int := wrap32 (beU xs)

def IsBytes (xs : List Int) : Prop := ∀ y ∈ xs, 0 ≤ y ∧ y < 256
theorem IsBytes.get {xs : List Int} (h : IsBytes xs) (i : Nat) : 0 ≤ xs.getD i 0 ∧ xs.getD i 0 < 256 := by
  by_cases hi : i < xs.length
  · rw [List.getD_eq_getElem?_getD, List.getElem?_eq_getElem hi]; exact h _ (List.getElem_mem hi)
  · rw [List.getD_eq_getElem?_getD, List.getElem?_eq_none (by omega)]; simp

/-- The cells of a row of bytes. -/
def Cells (w : World) (b o : Nat) (xs : List Int) : Prop := ∀ i, i < xs.length → w.cell? ⟨b, o + i, none⟩ = some (.int .u8 (xs.getD i 0))

end Go.Proofs.Qxb6614386a
