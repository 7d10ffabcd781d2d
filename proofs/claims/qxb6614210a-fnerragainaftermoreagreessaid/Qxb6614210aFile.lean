import Derived.Test.Qxb6614210aSmall
import Derived.Carry
namespace Go.Proofs.Qxb6614210a
open Go.RowKit

/-- A problem: its line, its message. -/
abbrev Pr := Int × ByteArray
def encP (x : Pr) : List Value := [.int .i64 x.1, .string x.2]
def flatP (ps : List Pr) : List Value := ps.flatMap encP
theorem flatP_length (ps : List Pr) : (flatP ps).length = ps.length * 2 := by
  induction ps with
  | nil => rfl
  | cons x r ih => simp [flatP, encP] at ih ⊢; omega
theorem flatP_snoc (ps : List Pr) (x : Pr) : flatP (ps ++ [x]) = flatP ps ++ encP x := by simp [flatP]

/-- Block fb holds a file whose field 'problems' is the slice v, which owns the problems ps. -/
structure FileIs (w : World) (fb : Nat) (v : Value) (ps : List Pr) : Prop where
  lt : fb < w.heap.size
  cell : w.cell? ⟨fb, 1, none⟩ = some v
  frz : w.frozen? ⟨fb, 1, none⟩ = false
  own : w.ownsRow (fb + 1) 46 2 v ps.length (flatP ps)

theorem owns_slice {w : World} {b : Nat} {e : TypeId} {sz : Nat} {v : Value} {n : Nat} {xs : List Value} (h : w.ownsRow b e sz v n xs) : ∃ ao cp, v = .slice ao n cp := by
  rcases h.2 with ⟨rfl, rfl⟩ | ⟨g, cap, cur, rfl, _⟩
  · exact ⟨_, _, rfl⟩
  · exact ⟨_, _, rfl⟩

theorem Try.info46 : (Try.prog.info? 46).map (fun i => (i.zero, i.size, i.bytes)) = some (some (.agg #[.int .i64 0, .string ⟨#[]⟩]), 2, 24) := by kernel_rfl

set_option maxHeartbeats 400000 in
theorem newFile_any (w : World) :
    Calls Try.prog 8 #[] w fun e w' => e = .returned (.pointer (some ⟨w.heap.size + 1, 0, none⟩)) ∧ FileIs w' (w.heap.size + 1) (.slice none 0 0) [] ∧ Below w.heap.size w w' := by
  have hmk := @run_makeMap Try.prog
  go_enter Try.func8, Try.ntmps8
  go_wp2
  go_ret
  refine ⟨rfl, ⟨by simp, ?_, ?_, World.ownsRow_nil _ _ _ _⟩, ?_⟩
  · simp
  · simp
  · exact ((Below.refl _ _).alloc (Nat.le_refl _) _).alloc (by simp) _

set_option maxHeartbeats 400000 in
theorem report_any (fb : Nat) (v : Value) (ps : List Pr) (line : Int) (m : ByteArray) (w : World) (h : FileIs w fb v ps) (hn : ps.length < 1000000) :
    Calls Try.prog 15 #[.pointer (some ⟨fb, 0, none⟩), .int .i64 line, .string m] w fun e w' => e = .returned (.tuple #[]) ∧ ∃ v', FileIs w' fb v' (ps ++ [(line, m)]) ∧ Below fb w w' := by
  obtain ⟨hlt, hcell, hfrz, hown⟩ := h
  obtain ⟨i0, hi, hz0, hz1, hz2⟩ := info_parts Try.info46
  go_enter Try.func15, Try.ntmps15
  go_wp2_with (at_builtin; refine wpList_append_own _ rfl (.tmp 10) (.tmp 14) 40 rfl (fb + 1) 46 i0 _ 2 24 Try.underlying40 hi hz0 hz1 hz2 rfl (by decide) _ _ _ rfl (hown.alloc _) ⟨w.heap.size, 0, none⟩ 1 1 [.int .i64 line, .string m] rfl rfl ?c1 ?c2 ?c3 ?c4 ?c5 ?_)
  case c1 =>
    intro j u hj
    match j, hj with
    | 0, hj => simp at hj; subst hj; simp [Addr.add]
    | 1, hj => simp at hj; subst hj; simp [Addr.add]
  case c2 => intro u hu; simp at hu; rcases hu with rfl | rfl <;> rfl
  case c3 => unfold maxLen; omega
  case c4 => omega
  case c5 => simp; omega
  intro v' w1 hown1 hgrow hnn
  have hne : some fb ≠ v.ownBlock := fun e => by have := (hown.lt fb e.symm).1; omega
  have hb : w1.heap[fb]? = w.heap[fb]? := (hgrow.block fb (by simp; omega) hne).trans (Below.heap_alloc w _ fb hlt)
  have hc1 : w1.cell? ⟨fb, 1, none⟩ = some v := (World.cell?_of_block hb).trans hcell
  have hf1 : w1.frozen? ⟨fb, 1, none⟩ = false := (World.frozen?_of_block hb).trans hfrz
  have hsz : w.heap.size + 1 ≤ w1.heap.size := by simpa using hgrow.size
  have hbel : Below fb w w1 := ((Below.refl fb w).alloc (by omega) _).grown hgrow (by simp; omega) (fun k hk => by have := (hown.lt k hk).1; omega)
  have HG : Hid _ := hgrow
  have HB : Hid _ := hb
  have HO : Hid _ := hown1
  clear hgrow hb hown hcell hown1 hfrz
  obtain ⟨ao, cp, rfl⟩ := owns_slice HO.out
  go_wp2
  go_end0
  refine ⟨rfl, .slice ao (ps.length + 1) cp, ⟨by simpa using by omega, ?_, ?_, ?_⟩, hbel.setCell (Nat.le_refl _) _⟩
  · exact World.cell?_setCell_same' _ _ _ (by rw [hc1]; rfl)
  · simpa using hf1
  · rw [flatP_snoc]
    exact ownsRow_setCell_below (by rw [List.length_append]; exact HO.out) (by simp) _

set_option maxHeartbeats 400000 in
theorem zzreport_any (fb : Nat) (v : Value) (ps : List Pr) (line : Int) (m : ByteArray) (w : World) (h : FileIs w fb v ps) (hn : ps.length < 1000000) :
    Calls Try.prog 9 #[.pointer (some ⟨fb, 0, none⟩), .int .i64 line, .string m] w fun e w' => e = .returned (.tuple #[]) ∧ ∃ v', FileIs w' fb v' (ps ++ [(line, m)]) ∧ Below fb w w' := by
  have hr := report_any fb v ps line m w h hn
  clear h
  go_enter Try.func9, Try.ntmps9
  go_wp2_with (go_at_call 15; refine hr.mono ?_; rintro e w' ⟨rfl, v', hF, hB⟩)
  go_end0
  exact ⟨rfl, v', hF, hB⟩

theorem Try.assert40 (W : World) (v : Value) : (Instr.typeAssert (.iface 40 v) 31 40 true).run Try.prog W = .ok (.tuple #[v, .bool true]) W := by kernel_rfl

theorem flatP_get0 (ps : List Pr) (i : Nat) (h : i < ps.length) : (flatP ps)[i * 2]? = some (.int .i64 ps[i]!.1) := by
  induction ps generalizing i with
  | nil => simp at h
  | cons x r ih =>
    cases i with
    | zero => simp [flatP, encP]
    | succ j =>
      have := ih j (by simpa using h)
      rw [show (j + 1) * 2 = j * 2 + 1 + 1 by omega]
      simpa [flatP, encP] using this
theorem flatP_get1 (ps : List Pr) (i : Nat) (h : i < ps.length) : (flatP ps)[i * 2 + 1]? = some (.string ps[i]!.2) := by
  induction ps generalizing i with
  | nil => simp at h
  | cons x r ih =>
    cases i with
    | zero => simp [flatP, encP]
    | succ j =>
      have := ih j (by simpa using h)
      rw [show (j + 1) * 2 + 1 = j * 2 + 1 + 1 + 1 by omega]
      simpa [flatP, encP] using this

/-- What v's cells hold. -/
theorem FileIs.at {w : World} {fb : Nat} {v : Value} {ps : List Pr} (h : FileIs w fb v ps) {i : Nat} (hi : i < ps.length) :
    ∃ g cp, v = .slice (some ⟨g, 0, none⟩) ps.length cp ∧ w.cell? ⟨g, i * 2, none⟩ = some (.int .i64 ps[i]!.1) ∧ w.cell? ⟨g, i * 2 + 1, none⟩ = some (.string ps[i]!.2) := by
  rcases h.own.2 with ⟨_, h0⟩ | ⟨g, cap, cur, rfl, _⟩
  · omega
  · have hc := h.own.cells (g := g) rfl
    refine ⟨g, cap, rfl, ?_, ?_⟩
    · have := hc _ _ (flatP_get0 ps i hi); rwa [Addr.add_lit, Nat.zero_add] at this
    · have := hc _ _ (flatP_get1 ps i hi); rwa [Addr.add_lit, Nat.zero_add] at this

set_option maxHeartbeats 400000 in
theorem errCount_any (ao : Option Addr) (n cp : Nat) (w : World) :
    Calls Try.prog 11 #[.iface 40 (.slice ao n cp)] w fun e w' => e = .returned (.int .i64 n) ∧ w' = w := by
  have ha := Try.assert40
  go_enter Try.func11, Try.ntmps11
  go_wp2
  go_ret
  exact ⟨rfl, rfl⟩

set_option maxHeartbeats 400000 in
theorem errLine_any (g n cp i : Nat) (x : Int) (w : World) (hi : i < n) (hc : w.cell? ⟨g, i * 2, none⟩ = some (.int .i64 x)) :
    Calls Try.prog 12 #[.iface 40 (.slice (some ⟨g, 0, none⟩) n cp), .int .i64 i] w fun e w' => e = .returned (.int .i64 x) ∧ w' = w := by
  have hiz : (i : Int) < (n : Int) := by omega
  have ha := Try.assert40
  go_enter Try.func12, Try.ntmps12
  go_wp2
  go_ret
  exact ⟨rfl, rfl⟩

set_option maxHeartbeats 400000 in
theorem errMessage_any (g n cp i : Nat) (x : ByteArray) (w : World) (hi : i < n) (hc : w.cell? ⟨g, i * 2 + 1, none⟩ = some (.string x)) :
    Calls Try.prog 13 #[.iface 40 (.slice (some ⟨g, 0, none⟩) n cp), .int .i64 i] w fun e w' => e = .returned (.string x) ∧ w' = w := by
  have hiz : (i : Int) < (n : Int) := by omega
  have ha := Try.assert40
  go_enter Try.func13, Try.ntmps13
  go_wp2
  go_ret
  exact ⟨rfl, rfl⟩
end Go.Proofs.Qxb6614210a
