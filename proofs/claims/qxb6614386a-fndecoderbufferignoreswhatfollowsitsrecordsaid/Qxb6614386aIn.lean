/-
  FROM WHAT THE SHELLS TELL OF AN ARGUMENT TO 'Ar'.
-/
import Derived.Test.Qxb6614386aCopy
namespace Go.Proofs.Qxb6614386a
open Go.RowKit

theorem ar_of_row {w : World} {a : Option Addr} {len cap : Nat} {zs : List Int}
    (h : (a = none ∧ len = 0 ∧ cap = 0 ∧ zs = []) ∨ ∃ x, a = some x ∧ len ≤ cap ∧ cap ≤ maxLen ∧ zs.length = cap ∧ (∀ i, i < zs.length → w.cell? (x.add i) = some (.int .u8 (zs.getD i 0))) ∧ ∀ n ∈ zs, (Lit.int .u8 n).wf = true) :
    Ar w (.slice a len cap) (zs.take len) ∧ (a = none → len = 0 ∧ cap = 0) := by
  rcases h with ⟨rfl, rfl, rfl, rfl⟩ | ⟨x, rfl, h1, h2, h3, h4, h5⟩
  · exact ⟨⟨(by intro y hy; cases hy), none, 0, rfl, Nat.le_refl _, by decide, fun h => absurd h (by decide)⟩, fun _ => ⟨rfl, rfl⟩⟩
  · refine ⟨⟨?_, some x, cap, ?_, ?_, h2, ?_⟩, fun h => by cases h⟩
    · refine IsBytes.take (fun y hy => ?_) len
      have := h5 y hy
      simp [Lit.wf, IntKind.min, IntKind.max, IntKind.bits, IntKind.signed] at this
      omega
    · rw [List.length_take, Nat.min_eq_left (by omega)]
    · rw [List.length_take]; omega
    · intro h0
      rw [List.length_take] at h0
      obtain ⟨b, o, f⟩ := x
      have hf : f = none := by
        have := h4 0 (by omega)
        cases f with
        | none => rfl
        | some s =>
          simp [World.cell?, Addr.add] at this
          split at this <;> cases this
      subst hf
      refine ⟨b, o, rfl, Cells.take (fun i hi => ?_) len⟩
      have hh := h4 i hi
      cases i with
      | zero => simpa [Addr.add] using hh
      | succ k => simpa [Addr.add] using hh

theorem i64_lt {z : Int} (h : (Lit.int .i64 z).wf = true) : z < 9223372036854775808 := by
  simp [Lit.wf, IntKind.min, IntKind.max, IntKind.bits, IntKind.signed] at h
  omega

end Go.Proofs.Qxb6614386a
