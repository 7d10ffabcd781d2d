/-
  WHAT THE ROWS' READINGS OF THE ARGUMENTS GIVE THE WALKS.
-/
import Derived.Test.Qxb6614210aOrders
import Derived.ProofKit
import Derived.OpenShut
import Derived.ShutString
import Derived.ChangeOld
import Derived.SliceStrings
namespace Go.Proofs.Qxb6614210a
open Go.ChangeShapes Go.WideShapes Go.ChangeAt Go.RowKit

theorem own : ownKnob Try.prog.godebug = none := by kernel_rfl
theorem laidOut : laidOutB Try.prog = true := by kernel_rfl

theorem spot_none {a : Addr} {W : World} {v : Value} (h : W.cell? (a.add 0) = some v) : a.spot = none := by
  simpa [Addr.add] using World.cell?_spot h

theorem reads_ints {H : Type} {enc : TypeId × Value → H} {W : World} {a0 : Option Addr} {len cap : Nat} {d : DataW H} {p : List MemPlace}
    (h : DataW.Trod enc Try.prog W 0 (fun _ => true) true 22 (.slice a0 len cap) d p) : ∃ zs, IntsIn W a0 len zs := by
  obtain ⟨fuel, hf⟩ := h
  rcases open_ints Try.underlying22 Try.underlying3 (by kernel_rfl) hf with ⟨hcs, _⟩ | ⟨x, l, c, zs, hcs, _, hl, hm, hz, _, hcell, hwz⟩
  · simp [Value.cells] at hcs
    obtain ⟨rfl, rfl, rfl⟩ := hcs
    exact ⟨fun _ => 0, ⟨Nat.zero_le _, fun h => absurd h (Nat.lt_irrefl _)⟩⟩
  · simp [Value.cells] at hcs
    obtain ⟨rfl, rfl, rfl⟩ := hcs
    have hzl : zs.length = cap := by simpa using hz
    refine ⟨fun i => zs.getD i 0, ⟨Nat.le_trans hl hm, fun h0 => ?_⟩⟩
    obtain ⟨b, off, spot⟩ := x
    have hs : spot = none := spot_none (hcell 0 (by omega))
    subst hs
    refine ⟨b, off, rfl, ?_, fun i hi => ?_⟩
    · have := World.block_lt_of_cell? _ _ (hcell 0 (by omega))
      simpa [Addr.add] using this
    · have := hcell i (by omega)
      rwa [Addr.add_lit] at this

theorem reads_strs {H : Type} {enc : TypeId × Value → H} {W : World} {a0 : Option Addr} {len cap : Nat} {d : DataW H} {p : List MemPlace}
    (h : DataW.Trod enc Try.prog W 0 (fun _ => true) true 23 (.slice a0 len cap) d p) : ∃ ss, StrsIn W a0 len ss := by
  obtain ⟨fuel, hf⟩ := h
  rcases open_strings Try.underlying23 Try.underlying9 (by kernel_rfl) hf with ⟨hcs, _⟩ | ⟨x, l, c, ss, hcs, _, hl, hm, hz, _, hcell, hwz⟩
  · simp [Value.cells] at hcs
    obtain ⟨rfl, rfl, rfl⟩ := hcs
    exact ⟨[], ⟨rfl, Nat.zero_le _, fun s hs => absurd hs (by simp), fun h => absurd h (Nat.lt_irrefl _)⟩⟩
  · simp [Value.cells] at hcs
    obtain ⟨rfl, rfl, rfl⟩ := hcs
    have hzl : ss.length = cap := by simpa using hz
    refine ⟨ss.take len, ⟨by simp; omega, Nat.le_trans hl hm, fun s hs => hwz s (List.mem_of_mem_take hs), fun h0 => ?_⟩⟩
    obtain ⟨b, off, spot⟩ := x
    have hs : spot = none := spot_none (hcell 0 (by omega))
    subst hs
    refine ⟨b, off, rfl, ?_, fun i hi => ?_⟩
    · have := World.block_lt_of_cell? _ _ (hcell 0 (by omega))
      simpa [Addr.add] using this
    · have := hcell i (by omega)
      rw [Addr.add_lit] at this
      rw [this]
      congr 2
      simp [List.getD, hi]
end Go.Proofs.Qxb6614210a
