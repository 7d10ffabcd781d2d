/-
  THE WALK OF FnDecoderBufferThenRestReadsAsFreshFrame.
-/
import Derived.Test.Qxb6614386aLooser
namespace Go.Proofs.Qxb6614386a
open Go.RowKit
set_option linter.unusedVariables false

theorem Sl.form {w : World} {v : Value} {nl : Bool} {xs : List Int} (h : Sl w v nl xs) : ∃ a n c, v = .slice a n c ∧ a.isNone = nl := by
  rcases h with ⟨rfl, _, rfl⟩ | ⟨rfl, _, b, o, c, rfl, _⟩
  · exact ⟨_, _, _, rfl, rfl⟩
  · exact ⟨_, _, _, rfl, rfl⟩
theorem Dec.of_below {w w' : World} {db : Nat} {nl f : Bool} {xs : List Int} (h : Dec w db nl f xs) (hB : Below w.heap.size w w') : Dec w' db nl f xs := by
  obtain ⟨sv, ev, hD, hS, hE⟩ := h
  exact ⟨sv, ev, hD.of_below hB, hS.of_below hB, hE⟩
theorem below_drewN (w : World) (q : Nat) : Below w.heap.size w (w.drewN q) := ⟨rfl, rfl, rfl, Nat.le_refl _, fun _ _ => rfl⟩
theorem bufM_rest_le (xs : List Int) : (bufM xs).rest.length ≤ xs.length := by
  cases hf : (bufM xs).failed
  · rw [(bufM_ok xs hf).2.2.1, List.length_drop]; omega
  · rw [bufM_dead xs hf]; exact Nat.zero_le _

set_option maxHeartbeats 8000000 in
set_option maxRecDepth 1000000 in
theorem fresh_any (a : Option Addr) (n c : Nat) (xs : List Int) (w : World) (h : Ar w (.slice a n c) xs) (hnil : a = none → n = 0 ∧ c = 0) :
    Calls Try.prog 3 #[.slice a n c] w fun e w' => e = .returned (.bool true) ∧ Below w.heap.size w w' := by
  have hby := bytes7 a n c w
  obtain ⟨hlen, _, _⟩ := h.len
  have H0 : Hid (Ar w (.slice a n c) xs) := h
  have HL : Hid (n = xs.length) := hlen
  have HNIL : Hid (a = none → n = 0 ∧ c = 0) := hnil
  clear h hlen hnil
  by_cases hn : ¬ n ≤ 1048576
  · rw [decide_eq_false hn] at hby
    go_enter Try.func3, Try.ntmps3
    go_wp2_with fail
    refine hby.mono ?_
    rintro e w' ⟨rfl, hw⟩; subst w'
    go_wp2
    go_ret
    exact ⟨rfl, Below.refl _ _⟩
  have hn' : n ≤ 1048576 := by omega
  rw [decide_eq_true hn'] at hby
  have hz : ¬ (1048576 : Int) < (n : Int) := by omega
  have HLX : Hid (xs.length ≤ 1048576) := (by have := HL.out; omega : xs.length ≤ 1048576)
  have HRX : Hid ((bufM xs).rest.length ≤ 1048576) := Nat.le_trans (bufM_rest_le xs) HLX.out
  clear hn hn'
  have en := eql22
  go_enter Try.func3, Try.ntmps3
  go_wp2_with fail
  refine hby.mono ?_
  rintro e w' ⟨rfl, hw⟩; subst w'
  clear hby
  go_wp2_with fail
  refine (clone_ar a n c xs w H0.out HLX.out HNIL.out).mono ?_
  rintro e w1 ⟨⟨v0, rfl, hS1⟩, hB1⟩
  go_wp2_with fail
  refine (newDecoder_any v0 _ xs w1 hS1).mono ?_
  rintro e w2 ⟨rfl, hB2, hD2⟩
  have D1 : Hid (w.heap.size ≤ w1.heap.size) := hB1.size
  have B2 : Hid (Below w.heap.size w w2) := hB1.trans (hB2.mono hB1.size)
  have DD2 : Hid (Dec w2 w1.heap.size a.isNone false xs) := hD2
  generalize w1.heap.size = db at *
  clear hB1 hB2 hS1 hD2
  go_wp2_with fail
  refine (zzbuffer_any db _ _ xs w2 DD2.out).mono ?_
  rintro e w3 ⟨v1, rfl, hV1, hD3, hC3⟩
  have B3 : Hid (Below w.heap.size w w3) := B2.out.trans (hC3.below B2.out.size D1.out)
  clear hC3 DD2 B2
  go_wp2_with fail
  refine (rest_any db _ _ _ w3 hD3).mono ?_
  rintro e w' ⟨⟨r1, rfl, hR1⟩, hw⟩; subst w'
  go_wp2_with fail
  refine (clone_sl r1 _ _ w3 hR1 HRX.out).mono ?_
  rintro e w4 ⟨⟨s1, rfl, hT1⟩, hB4⟩
  have B4 : Hid (Below w.heap.size w w4) := B3.out.trans (hB4.mono B3.out.size)
  have D4 : Hid (Dec w4 db (bufM xs).failed (bufM xs).failed (bufM xs).rest) := hD3.of_below hB4
  have V4 : Hid (Sl w4 v1 (bufM xs).gotNil (bufM xs).got) := hV1.of_below hB4
  have H4 : Hid (Ar w4 (.slice a n c) xs) := H0.out.of_below B4.out
  have T4 : Hid (Sl w4 s1 (bufM xs).failed (bufM xs).rest) := hT1
  clear hB4 hD3 hV1 hR1 hT1 B3
  go_wp2_with fail
  refine (failed_any db _ _ _ w4 D4.out).mono ?_
  rintro e w' ⟨rfl, hw⟩; subst w'
  go_wp2_with fail
  refine (bmatches a n c xs v1 s1 w4 H4.out V4.out T4.out).mono ?_
  rintro e w' ⟨rfl, q, hw⟩
  have B5 : Hid (Below w.heap.size w w') := (by rw [hw]; exact ⟨B4.out.os, B4.out.tape, B4.out.output, B4.out.size, B4.out.block⟩ : Below w.heap.size w w')
  have D5 : Hid (Dec w' db (bufM xs).failed (bufM xs).failed (bufM xs).rest) := (by rw [hw]; exact D4.out.of_below (below_drewN w4 q) : Dec w' db (bufM xs).failed (bufM xs).failed (bufM xs).rest)
  have T5 : Hid (Sl w' s1 (bufM xs).failed (bufM xs).rest) := (by rw [hw]; exact T4.out : Sl w' s1 (bufM xs).failed (bufM xs).rest)
  clear hw D4 V4 H4 T4 B4 H0 HLX
  generalize (bufM xs).failed = f1 at *
  generalize (bufM xs).rest = ys at *
  go_wp2_with fail
  refine (zzbuffer_any db _ _ ys w' D5.out).mono ?_
  rintro e w6 ⟨v2, rfl, hV2, hD6, hC6⟩
  have B6 : Hid (Below w.heap.size w w6) := B5.out.trans (hC6.below B5.out.size D1.out)
  have T6 : Hid (Sl w6 s1 f1 ys) := T5.out.chg (Dec.noInt D5.out) hC6
  clear hC6 D5 B5 T5
  go_wp2_with fail
  refine (rest_any db _ _ _ w6 hD6).mono ?_
  rintro e w' ⟨⟨r2, rfl, hR2⟩, hw⟩; subst w'
  go_wp2_with fail
  refine (failed_any db _ _ _ w6 hD6).mono ?_
  rintro e w' ⟨rfl, hw⟩; subst w'
  clear hD6
  have V6 : Hid (Sl w6 v2 (bufM ys).gotNil (bufM ys).got) := hV2
  have R6 : Hid (Sl w6 r2 (bufM ys).failed (bufM ys).rest) := hR2
  clear hV2 hR2
  go_wp2_with fail
  refine (clone_sl s1 _ _ w6 T6.out HRX.out).mono ?_
  rintro e w7 ⟨⟨s2, rfl, hT7⟩, hB7⟩
  go_wp2_with fail
  refine (newDecoder_any s2 _ ys w7 hT7).mono ?_
  rintro e w8 ⟨rfl, hB8, hD8⟩
  have hB78 : Below w6.heap.size w6 w8 := hB7.trans (hB8.mono hB7.size)
  have D7 : Hid (w.heap.size ≤ w7.heap.size) := Nat.le_trans B6.out.size hB7.size
  have B8 : Hid (Below w.heap.size w w8) := B6.out.trans (hB78.mono B6.out.size)
  have V8 : Hid (Sl w8 v2 (bufM ys).gotNil (bufM ys).got) := V6.out.of_below hB78
  have R8 : Hid (Sl w8 r2 (bufM ys).failed (bufM ys).rest) := R6.out.of_below hB78
  have D8 : Hid (Dec w8 w7.heap.size f1 false ys) := hD8
  generalize w7.heap.size = db2 at *
  clear hB78 hB7 hB8 hT7 hD8 V6 R6 B6 T6
  go_wp2_with fail
  refine (zzbuffer_any db2 _ _ ys w8 D8.out).mono ?_
  rintro e w9 ⟨v3, rfl, hV3, hD9, hC9⟩
  have B9 : Hid (Below w.heap.size w w9) := B8.out.trans (hC9.below B8.out.size D7.out)
  have V9 : Hid (Sl w9 v2 (bufM ys).gotNil (bufM ys).got) := V8.out.chg (Dec.noInt D8.out) hC9
  have R9 : Hid (Sl w9 r2 (bufM ys).failed (bufM ys).rest) := R8.out.chg (Dec.noInt D8.out) hC9
  clear hC9 V8 R8 B8 D8
  go_wp2_with fail
  refine (rest_any db2 _ _ _ w9 hD9).mono ?_
  rintro e w' ⟨⟨r3, rfl, hR3⟩, hw⟩; subst w'
  go_wp2_with fail
  refine (failed_any db2 _ _ _ w9 hD9).mono ?_
  rintro e w' ⟨rfl, hw⟩; subst w'
  clear hD9
  have W9 : Hid (Sl w9 v3 (bufM ys).gotNil (bufM ys).got) := hV3
  have S9 : Hid (Sl w9 r3 (bufM ys).failed (bufM ys).rest) := hR3
  clear hV3 hR3
  generalize (bufM ys).failed = f2 at *
  generalize (bufM ys).rest = zs at *
  generalize (bufM ys).gotNil = gn at *
  generalize (bufM ys).got = gs at *
  obtain ⟨a2, n2, c2, rfl, i2⟩ := V9.out.form
  obtain ⟨a3, n3, c3, rfl, i3⟩ := W9.out.form
  obtain ⟨a4, n4, c4, rfl, i4⟩ := R9.out.form
  obtain ⟨a5, n5, c5, rfl, i5⟩ := S9.out.form
  have hff : (f2 == f2) = true := by simp
  have hgg : (gn == gn) = true := by simp
  go_wp2_with fail
  refine (equal_same _ _ gs w9 V9.out.ar W9.out.ar).mono ?_
  rintro e w' ⟨rfl, q1, hw⟩; subst w'
  go_wp2_with fail
  refine (equal_same _ _ zs (w9.drewN q1) R9.out.ar S9.out.ar).mono ?_
  rintro e w' ⟨rfl, q2, hw⟩; subst w'
  go_wp2
  go_ret
  exact ⟨rfl, ⟨B9.out.os, B9.out.tape, B9.out.output, B9.out.size, B9.out.block⟩⟩

end Go.Proofs.Qxb6614386a
