/-
  THE NUMBER AT THE HEAD OF A FRAME: (bigEndian).Uint32, zzBE32, (*decoder).int32.
-/
import Derived.Test.Qxb6614386aBase
import Derived.Lib.EndianBits
import Derived.RegionTactic
import Derived.BigQuiet
namespace Go.Proofs.Qxb6614386a
open Go.RowKit
set_option linter.unusedVariables false

section
variable (y x : Int)
theorem u32_ro8 (hy₀ : 0 ≤ y) (hy : y < 256) (hx₀ : 0 ≤ x) (hx : x % 256 = 0) (hx₁ : x < 4294967296) : bits .or .u32 x y = x + y :=
  bits_join .u32 32 (by decide) wraps_u32 8 x y hx₀ hx hx₁ hy₀ hy (by omega)
theorem u32_ro16 (hy₀ : 0 ≤ y) (hy : y < 65536) (hx₀ : 0 ≤ x) (hx : x % 65536 = 0) (hx₁ : x < 4294967296) : bits .or .u32 x y = x + y :=
  bits_join .u32 32 (by decide) wraps_u32 16 x y hx₀ hx hx₁ hy₀ hy (by omega)
theorem u32_ro24 (hy₀ : 0 ≤ y) (hy : y < 16777216) (hx₀ : 0 ≤ x) (hx : x % 16777216 = 0) (hx₁ : x < 4294967296) : bits .or .u32 x y = x + y :=
  bits_join .u32 32 (by decide) wraps_u32 24 x y hx₀ hx hx₁ hy₀ hy (by omega)
end

set_option maxHeartbeats 8000000 in
set_option maxRecDepth 1000000 in
theorem uint32_any (b o c : Nat) (x0 x1 x2 x3 : Int) (w : World)
    (c0 : w.cell? ⟨b, o, none⟩ = some (.int .u8 x0)) (c1 : w.cell? ⟨b, o + 1, none⟩ = some (.int .u8 x1)) (c2 : w.cell? ⟨b, o + 2, none⟩ = some (.int .u8 x2)) (c3 : w.cell? ⟨b, o + 3, none⟩ = some (.int .u8 x3))
    (h0 : 0 ≤ x0 ∧ x0 < 256) (h1 : 0 ≤ x1 ∧ x1 < 256) (h2 : 0 ≤ x2 ∧ x2 < 256) (h3 : 0 ≤ x3 ∧ x3 < 256) :
    Calls Try.prog 29 #[.agg #[], .slice (some ⟨b, o, none⟩) 4 c] w fun e w' => e = .returned (.int .u32 (x0 * 16777216 + x1 * 65536 + x2 * 256 + x3)) ∧ Below w.heap.size w w' := by
  obtain ⟨l0, u0⟩ := h0
  obtain ⟨l1, u1⟩ := h1
  obtain ⟨l2, u2⟩ := h2
  obtain ⟨l3, u3⟩ := h3
  have hlt : b < w.heap.size := World.block_lt_of_cell? _ _ c0
  have hal : Below w.heap.size w (w.alloc (.cells #[] 51)) := (Below.refl _ w).alloc (Nat.le_refl _) _
  have d0 : (w.alloc (.cells #[] 51)).cell? ⟨b, o, none⟩ = some (.int .u8 x0) := (hal.cell hlt).trans c0
  have d1 : (w.alloc (.cells #[] 51)).cell? ⟨b, o + 1, none⟩ = some (.int .u8 x1) := (hal.cell hlt).trans c1
  have d2 : (w.alloc (.cells #[] 51)).cell? ⟨b, o + 2, none⟩ = some (.int .u8 x2) := (hal.cell hlt).trans c2
  have d3 : (w.alloc (.cells #[] 51)).cell? ⟨b, o + 3, none⟩ = some (.int .u8 x3) := (hal.cell hlt).trans c3
  go_enter Try.func29, Try.ntmps29
  go_wp2_with fail
  go_quiet (fail)
  go_wp2
  go_ret
  refine ⟨?_, ⟨hal.os, hal.tape, hal.output, hal.size, hal.block⟩⟩
  simp (disch := omega) only [u32_or8, u32_or16, u32_or24]
  have e : x0 * 16777216 + x1 * 65536 + x2 * 256 + x3 = x3 + x2 * 256 + x1 * 65536 + x0 * 16777216 := by omega
  rw [e]
  rfl

set_option maxHeartbeats 8000000 in
set_option maxRecDepth 1000000 in
/-- zzBE32 over a slice of four bytes or more. -/
theorem be32_any (b o n c : Nat) (xs : List Int) (w : World) (hn : n = xs.length) (hz : n ≤ maxLen) (h4 : 4 ≤ n) (hx : IsBytes xs) (hc : Cells w b o xs) :
    Calls Try.prog 18 #[.slice (some ⟨b, o, none⟩) n c] w fun e w' => e = .returned (.int .i32 (be xs)) ∧ ∃ q, w' = w.drewN q := by
  have c0 : w.cell? ⟨b, o, none⟩ = some (.int .u8 (xs.getD 0 0)) := hc 0 (by omega)
  have c1 := hc 1 (by omega)
  have c2 := hc 2 (by omega)
  have c3 := hc 3 (by omega)
  obtain ⟨l0, u0⟩ := hx.get 0
  obtain ⟨l1, u1⟩ := hx.get 1
  obtain ⟨l2, u2⟩ := hx.get 2
  obtain ⟨l3, u3⟩ := hx.get 3
  unfold be beU
  unfold maxLen at hz
  have q0 : 0 < n := by omega
  have q1 : (1 : Int) < (n : Int) := by omega
  have q2 : (2 : Int) < (n : Int) := by omega
  have q3 : (3 : Int) < (n : Int) := by omega
  generalize xs.getD 0 0 = x0 at *
  generalize xs.getD 1 0 = x1 at *
  generalize xs.getD 2 0 = x2 at *
  generalize xs.getD 3 0 = x3 at *
  clear hx hc hn
  go_enter Try.func18, Try.ntmps18
  go_wp2_with fail
  go_quiet (fail)
  go_wp2
  go_ret
  refine ⟨?_, _, rfl⟩
  simp (disch := omega) only [u32_ro8, u32_ro16, u32_ro24]
  rfl

set_option maxHeartbeats 8000000 in
set_option maxRecDepth 1000000 in
theorem int32_ok (db b o c : Nat) (xs : List Int) (w : World) (h : DecC w db (.slice (some ⟨b, o, none⟩) xs.length c) .nilIface) (h4 : 4 ≤ xs.length) (hn : xs.length ≤ c) (hc : c ≤ maxLen) (hx : IsBytes xs) (hcell : Cells w b o xs) (hne : b ≠ db) :
    Calls Try.prog 26 #[.pointer (some ⟨db, 0, none⟩)] w fun e w' => e = .returned (.int .i32 (be xs)) ∧ Chg db w w' ∧ ∃ o', (4 < xs.length → o' = o + 4) ∧ DecC w' db (.slice (some ⟨b, o', none⟩) (xs.length - 4) (c - 4)) .nilIface := by
  have htake := take_ok db b o xs.length c 4 w h h4 hn hc
  unfold be
  have c0 : w.cell? ⟨b, o, none⟩ = some (.int .u8 (xs.getD 0 0)) := hcell 0 (by omega)
  have c1 := hcell 1 (by omega)
  have c2 := hcell 2 (by omega)
  have c3 := hcell 3 (by omega)
  have l0 := hx.get 0
  have l1 := hx.get 1
  have l2 := hx.get 2
  have l3 := hx.get 3
  have HC : Hid _ := hcell
  have en := eql22
  go_enter Try.func26, Try.ntmps26
  go_wp2_with fail
  refine htake.mono ?_
  rintro e w1 ⟨rfl, hC, o', ho', hD⟩
  have blt : b < w.heap.size := World.block_lt_of_cell? _ _ c0
  have keep : ∀ i v, w.cell? ⟨b, i, none⟩ = some v → w1.cell? ⟨b, i, none⟩ = some v := fun i v hv => (World.cell?_of_block (w := w) (hC.block b blt hne)).trans hv
  have hu : Calls Try.prog 29 #[.agg #[], .slice (some ⟨b, o, none⟩) 4 4] w1 fun e w' => e = .returned (.int .u32 (beU xs)) ∧ Below w1.heap.size w1 w' := uint32_any b o 4 _ _ _ _ w1 (keep _ _ c0) (keep _ _ c1) (keep _ _ c2) (keep _ _ c3) l0 l1 l2 l3
  clear htake keep
  go_wp2_with fail
  refine hu.mono ?_
  rintro e w2 ⟨rfl, hB⟩
  go_wp2
  go_ret
  exact ⟨rfl, hC.trans (Chg.of_below hB), o', ho', hD.of_below hB⟩

set_option maxHeartbeats 1000000 in
set_option maxRecDepth 100000 in
theorem int32_bad (db : Nat) (a : Option Addr) (n c : Nat) (ev : Value) (w : World) (h : DecC w db (.slice a n c) ev) (hb : Bad n 4 ev) :
    Calls Try.prog 26 #[.pointer (some ⟨db, 0, none⟩)] w fun e w' => e = .returned (.int .i32 0) ∧ Chg db w w' ∧ ∃ x y, DecC w' db (.slice none 0 0) (.iface x y) := by
  have htake := take_bad db a n c 4 ev w h hb
  have en := eql22
  clear h hb
  go_enter Try.func26, Try.ntmps26
  go_wp2_with fail
  refine htake.mono ?_
  rintro e w1 ⟨rfl, hC, x, y, hD⟩
  go_wp2
  go_ret
  exact ⟨rfl, hC, x, y, hD⟩

/-! ### Slices and decoders by what they hold -/

/-- A slice of the road: nil, or one that holds xs. -/
def Sl (w : World) (v : Value) (nl : Bool) (xs : List Int) : Prop :=
  (nl = true ∧ xs = [] ∧ v = .slice none 0 0) ∨ (nl = false ∧ IsBytes xs ∧ ∃ b o c, v = .slice (some ⟨b, o, none⟩) xs.length c ∧ xs.length ≤ c ∧ c ≤ maxLen ∧ Cells w b o xs)

/-- A decoder that holds xs (nl: its slice is nil), failed or not. -/
def Dec (w : World) (db : Nat) (nl failed : Bool) (xs : List Int) : Prop :=
  ∃ sv ev, DecC w db sv ev ∧ Sl w sv nl xs ∧ ((failed = false ∧ ev = .nilIface) ∨ (failed = true ∧ nl = true ∧ ∃ x y, ev = .iface x y))

theorem Sl.dead (w : World) : Sl w (.slice none 0 0) true [] := .inl ⟨rfl, rfl, rfl⟩
theorem Dec.dead {w : World} {db : Nat} {x : TypeId} {y : Value} (h : DecC w db (.slice none 0 0) (.iface x y)) : Dec w db true true [] := ⟨_, _, h, Sl.dead w, .inr ⟨rfl, rfl, x, y, rfl⟩⟩

/-- No cell of that block holds a number. -/
def NoInt (w : World) (db : Nat) : Prop := ∀ i k z, w.cell? ⟨db, i, none⟩ ≠ some (.int k z)
theorem Dec.noInt {w : World} {db : Nat} {nl failed : Bool} {xs : List Int} (h : Dec w db nl failed xs) : NoInt w db := by
  obtain ⟨sv, ev, hD, hS, hE⟩ := h
  intro i k z hc
  match i, hc with
  | 0, hc =>
    rw [hD.c0] at hc
    rcases hS with ⟨_, _, rfl⟩ | ⟨_, _, b, o, c, rfl, _⟩ <;> cases hc
  | 1, hc =>
    rw [hD.c1] at hc
    rcases hE with ⟨_, rfl⟩ | ⟨_, _, x, y, rfl⟩ <;> cases hc
  | i + 2, hc => rw [hD.none2 (i + 2) (by omega)] at hc; cases hc
theorem Cells.chg {w w' : World} {db b o : Nat} {xs : List Int} (h : Cells w b o xs) (hn : NoInt w db) (hC : Chg db w w') : Cells w' b o xs := by
  intro i hi
  have h0 := h i hi
  have hlt : b < w.heap.size := World.block_lt_of_cell? _ _ h0
  have hne : b ≠ db := fun e => by subst e; exact hn _ _ _ h0
  exact (World.cell?_of_block (w := w) (hC.block b hlt hne)).trans h0
theorem Cells.of_below {w w' : World} {b o : Nat} {xs : List Int} (h : Cells w b o xs) (hB : Below w.heap.size w w') : Cells w' b o xs := by
  intro i hi
  have h0 := h i hi
  have hlt : b < w.heap.size := World.block_lt_of_cell? _ _ h0
  exact (hB.cell hlt).trans h0
theorem Sl.chg {w w' : World} {db : Nat} {v : Value} {nl : Bool} {xs : List Int} (h : Sl w v nl xs) (hn : NoInt w db) (hC : Chg db w w') : Sl w' v nl xs := by
  rcases h with h | ⟨h1, h2, b, o, c, rfl, h3, h4, h5⟩
  · exact .inl h
  · exact .inr ⟨h1, h2, b, o, c, rfl, h3, h4, h5.chg hn hC⟩
theorem Sl.of_below {w w' : World} {v : Value} {nl : Bool} {xs : List Int} (h : Sl w v nl xs) (hB : Below w.heap.size w w') : Sl w' v nl xs := by
  rcases h with h | ⟨h1, h2, b, o, c, rfl, h3, h4, h5⟩
  · exact .inl h
  · exact .inr ⟨h1, h2, b, o, c, rfl, h3, h4, h5.of_below hB⟩
theorem Sl.bytes {w : World} {v : Value} {nl : Bool} {xs : List Int} (h : Sl w v nl xs) : IsBytes xs := by
  rcases h with ⟨_, rfl, _⟩ | ⟨_, h2, _⟩
  · intro y hy; cases hy
  · exact h2

theorem getD_drop (xs : List Int) (k i : Nat) : (xs.drop k).getD i 0 = xs.getD (k + i) 0 := by
  rw [List.getD_eq_getElem?_getD, List.getD_eq_getElem?_getD, List.getElem?_drop]
theorem getD_take (xs : List Int) (k i : Nat) (h : i < k) : (xs.take k).getD i 0 = xs.getD i 0 := by
  rw [List.getD_eq_getElem?_getD, List.getD_eq_getElem?_getD, List.getElem?_take, if_pos h]
theorem IsBytes.drop {xs : List Int} (h : IsBytes xs) (k : Nat) : IsBytes (xs.drop k) := fun y hy => h y (List.mem_of_mem_drop hy)
theorem IsBytes.take {xs : List Int} (h : IsBytes xs) (k : Nat) : IsBytes (xs.take k) := fun y hy => h y (List.mem_of_mem_take hy)
theorem Cells.drop {w : World} {b o o' : Nat} {xs : List Int} (h : Cells w b o xs) (k : Nat) (ho : k < xs.length → o' = o + k) : Cells w b o' (xs.drop k) := by
  intro i hi
  rw [List.length_drop] at hi
  rw [ho (by omega), getD_drop, show o + k + i = o + (k + i) by omega]
  exact h (k + i) (by omega)
theorem Cells.take {w : World} {b o : Nat} {xs : List Int} (h : Cells w b o xs) (k : Nat) : Cells w b o (xs.take k) := by
  intro i hi
  rw [List.length_take] at hi
  rw [getD_take xs k i (by omega)]
  exact h i (by omega)

end Go.Proofs.Qxb6614386a
