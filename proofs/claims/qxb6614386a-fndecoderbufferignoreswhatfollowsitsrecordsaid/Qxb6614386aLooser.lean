/-
  THE WALK OF FnDecoderCountLooserMinElemAcceptsMore; the bounds on the lengths.
-/
import Derived.Test.Qxb6614386aMatch
namespace Go.Proofs.Qxb6614386a
open Go.RowKit
set_option linter.unusedVariables false

set_option maxHeartbeats 1000000 in
theorem bytes22 (a : Option Addr) (n c : Nat) (m1 m2 : Int) (w : World) :
    Calls Try.prog 22 #[.slice a n c, .int .i64 m1, .int .i64 m2] w fun e w' => e = .returned (.bool (decide (n ≤ 1048576))) ∧ w' = w := by
  by_cases hn : n ≤ 1048576
  · rw [decide_eq_true hn]
    have hz : ¬ (1048576 : Int) < (n : Int) := by omega
    go_enter Try.func22, Try.ntmps22
    go_wp2
    go_ret
    exact ⟨rfl, rfl⟩
  · rw [decide_eq_false hn]
    have hz : (1048576 : Int) < (n : Int) := by omega
    go_enter Try.func22, Try.ntmps22
    go_wp2
    go_ret
    exact ⟨rfl, rfl⟩
set_option maxHeartbeats 1000000 in
theorem bytes7 (a : Option Addr) (n c : Nat) (w : World) :
    Calls Try.prog 7 #[.slice a n c] w fun e w' => e = .returned (.bool (decide (n ≤ 1048576))) ∧ w' = w := by
  by_cases hn : n ≤ 1048576
  · rw [decide_eq_true hn]
    have hz : ¬ (1048576 : Int) < (n : Int) := by omega
    go_enter Try.func7, Try.ntmps7
    go_wp2
    go_ret
    exact ⟨rfl, rfl⟩
  · rw [decide_eq_false hn]
    have hz : (1048576 : Int) < (n : Int) := by omega
    go_enter Try.func7, Try.ntmps7
    go_wp2
    go_ret
    exact ⟨rfl, rfl⟩
set_option maxHeartbeats 1000000 in
theorem bytes19 (a : Option Addr) (n c : Nat) (w : World) :
    Calls Try.prog 19 #[.slice a n c] w fun e w' => e = .returned (.bool (decide (n ≤ 1048576))) ∧ w' = w := by
  by_cases hn : n ≤ 1048576
  · rw [decide_eq_true hn]
    have hz : ¬ (1048576 : Int) < (n : Int) := by omega
    go_enter Try.func19, Try.ntmps19
    go_wp2
    go_ret
    exact ⟨rfl, rfl⟩
  · rw [decide_eq_false hn]
    have hz : (1048576 : Int) < (n : Int) := by omega
    go_enter Try.func19, Try.ntmps19
    go_wp2
    go_ret
    exact ⟨rfl, rfl⟩

/-! ### The plain law -/
theorem cnt_looser (xs : List Int) (m1 m2 : Int) (h1 : 1 ≤ m1) (h : m1 ≤ m2) (hf : (cntM xs m2).failed = false) : (cntM xs m1).failed = false ∧ (cntM xs m1).n = (cntM xs m2).n := by
  unfold cntM at hf ⊢
  by_cases a1 : xs.length < 4
  · rw [if_pos a1] at hf; cases hf
  rw [if_neg a1] at hf ⊢
  rw [if_neg a1]
  by_cases a2 : be xs = -1
  · rw [if_pos a2, if_pos a2]; exact ⟨rfl, rfl⟩
  rw [if_neg a2] at hf ⊢
  rw [if_neg a2]
  by_cases a3 : be xs < 0
  · rw [if_pos a3] at hf; cases hf
  rw [if_neg a3] at hf ⊢
  rw [if_neg a3]
  by_cases a4 : ((xs.length - 4 : Nat) : Int) < be xs * m2
  · rw [if_pos a4] at hf; cases hf
  have hle : be xs * m1 ≤ be xs * m2 := Int.mul_le_mul_of_nonneg_left h (by omega)
  rw [if_neg a4, if_neg (by omega)]
  exact ⟨rfl, rfl⟩

set_option maxHeartbeats 8000000 in
set_option maxRecDepth 1000000 in
theorem looser_any (a : Option Addr) (n c : Nat) (xs : List Int) (m1 m2 : Int) (w : World) (h : Ar w (.slice a n c) xs) (hnil : a = none → n = 0 ∧ c = 0)
    (u1 : m1 < 9223372036854775808) (u2 : m2 < 9223372036854775808) :
    Calls Try.prog 6 #[.slice a n c, .int .i64 m1, .int .i64 m2] w fun e w' => e = .returned (.bool true) ∧ Below w.heap.size w w' := by
  have hby := bytes22 a n c m1 m2 w
  obtain ⟨hlen, _, _⟩ := h.len
  have H0 : Hid (Ar w (.slice a n c) xs) := h
  have HL : Hid (n = xs.length) := hlen
  have HNIL : Hid (a = none → n = 0 ∧ c = 0) := hnil
  have HU1 : Hid (m1 < 9223372036854775808) := u1
  have HU2 : Hid (m2 < 9223372036854775808) := u2
  clear h hlen hnil u1 u2
  by_cases hn : ¬ n ≤ 1048576
  · rw [decide_eq_false hn] at hby
    go_enter Try.func6, Try.ntmps6
    go_wp2_with fail
    refine hby.mono ?_
    rintro e w' ⟨rfl, hw⟩; subst w'
    go_wp2
    go_ret
    exact ⟨rfl, Below.refl _ _⟩
  have hn' : n ≤ 1048576 := by omega
  rw [decide_eq_true hn'] at hby
  have hz : ¬ (1048576 : Int) < (n : Int) := by omega
  have HN : Hid (n ≤ 1048576) := hn'
  clear hn hn'
  by_cases k1 : m1 < 1
  · go_enter Try.func6, Try.ntmps6
    go_wp2_with fail
    refine hby.mono ?_
    rintro e w' ⟨rfl, hw⟩; subst w'
    go_wp2
    go_ret
    exact ⟨rfl, Below.refl _ _⟩
  by_cases k2 : m2 < 1
  · go_enter Try.func6, Try.ntmps6
    go_wp2_with fail
    refine hby.mono ?_
    rintro e w' ⟨rfl, hw⟩; subst w'
    go_wp2
    go_ret
    exact ⟨rfl, Below.refl _ _⟩
  have K1 : Hid (1 ≤ m1) := (by omega : 1 ≤ m1)
  have K2 : Hid (1 ≤ m2) := (by omega : 1 ≤ m2)
  have HLX : Hid (xs.length ≤ 1048576) := (by have := HL.out; have := HN.out; omega : xs.length ≤ 1048576)
  go_enter Try.func6, Try.ntmps6
  go_wp2_with fail
  refine hby.mono ?_
  rintro e w' ⟨rfl, hw⟩; subst w'
  clear hby
  go_wp2_with fail
  refine (clone_ar a n c xs w H0.out HLX.out HNIL.out).mono ?_
  rintro e w1 ⟨⟨v1, rfl, hS1⟩, hB1⟩
  go_wp2_with fail
  refine (newDecoder_any v1 _ xs w1 hS1).mono ?_
  rintro e w2 ⟨rfl, hB2, hD2⟩
  have D1 : Hid (w.heap.size ≤ w1.heap.size) := hB1.size
  have B2 : Hid (Below w.heap.size w w2) := hB1.trans (hB2.mono hB1.size)
  have DD2 : Hid (Dec w2 w1.heap.size a.isNone false xs) := hD2
  generalize w1.heap.size = db at *
  clear hB1 hB2 hS1 hD2
  go_wp2_with fail
  refine (zzcount_any db _ xs m1 w2 DD2.out K1.out HU1.out).mono ?_
  rintro e w3 ⟨rfl, hD3, hC3⟩
  have B3 : Hid (Below w.heap.size w w3) := B2.out.trans (hC3.below B2.out.size D1.out)
  clear hC3 DD2 B2
  go_wp2_with fail
  refine (rest_any db _ _ _ w3 hD3).mono ?_
  rintro e w' ⟨⟨r1, rfl, hR1⟩, hw⟩; subst w'
  go_wp2_with fail
  refine (failed_any db _ _ _ w3 hD3).mono ?_
  rintro e w' ⟨rfl, hw⟩; subst w'
  clear hD3
  have R1 : Hid (Sl w3 r1 (cntM xs m1).failed (cntM xs m1).rest) := hR1
  have H3 : Hid (Ar w3 (.slice a n c) xs) := H0.out.of_below B3.out
  clear hR1
  go_wp2_with fail
  refine (clone_ar a n c xs w3 H3.out HLX.out HNIL.out).mono ?_
  rintro e w4 ⟨⟨v2, rfl, hS4⟩, hB4⟩
  go_wp2_with fail
  refine (newDecoder_any v2 _ xs w4 hS4).mono ?_
  rintro e w5 ⟨rfl, hB5, hD5⟩
  have hB45 : Below w3.heap.size w3 w5 := hB4.trans (hB5.mono hB4.size)
  have D4 : Hid (w.heap.size ≤ w4.heap.size) := Nat.le_trans B3.out.size hB4.size
  have B5 : Hid (Below w.heap.size w w5) := B3.out.trans (hB45.mono B3.out.size)
  have R5 : Hid (Sl w5 r1 (cntM xs m1).failed (cntM xs m1).rest) := R1.out.of_below hB45
  have H5 : Hid (Ar w5 (.slice a n c) xs) := H3.out.of_below hB45
  have DD5 : Hid (Dec w5 w4.heap.size a.isNone false xs) := hD5
  generalize w4.heap.size = db2 at *
  clear hB45 hB4 hB5 hS4 hD5 R1 H3
  go_wp2_with fail
  refine (zzcount_any db2 _ xs m2 w5 DD5.out K2.out HU2.out).mono ?_
  rintro e w6 ⟨rfl, hD6, hC6⟩
  have B6 : Hid (Below w.heap.size w w6) := B5.out.trans (hC6.below B5.out.size D4.out)
  have R6 : Hid (Sl w6 r1 (cntM xs m1).failed (cntM xs m1).rest) := R5.out.chg (Dec.noInt DD5.out) hC6
  have H6 : Hid (Ar w6 (.slice a n c) xs) := H5.out.chg (Dec.noInt DD5.out) hC6
  clear hC6 DD5 B5 R5 H5 B3
  go_wp2_with fail
  refine (rest_any db2 _ _ _ w6 hD6).mono ?_
  rintro e w' ⟨⟨r2, rfl, hR2⟩, hw⟩; subst w'
  go_wp2_with fail
  refine (failed_any db2 _ _ _ w6 hD6).mono ?_
  rintro e w' ⟨rfl, hw⟩; subst w'
  have S6 : Hid (Sl w6 r2 (cntM xs m2).failed (cntM xs m2).rest) := hR2
  clear hD6 hR2
  go_wp2_with fail
  refine (cmatches a n c xs m1 r1 w6 H6.out HN.out K1.out HU1.out R6.out).mono ?_
  rintro e w7 ⟨rfl, q, rfl⟩
  go_wp2_with fail
  refine (cmatches a n c xs m2 r2 (w6.drewN q) H6.out HN.out K2.out HU2.out S6.out).mono ?_
  rintro e w8 ⟨rfl, q', rfl⟩
  have law1 := cnt_looser xs m1 m2 K1.out
  have law2 := cnt_looser xs m2 m1 K2.out
  have BE : Hid (Below w.heap.size w ((w6.drewN q).drewN q')) := ⟨B6.out.os, B6.out.tape, B6.out.output, B6.out.size, B6.out.block⟩
  generalize (w6.drewN q).drewN q' = w9 at *
  clear R6 S6 H6 B6 H0
  generalize (cntM xs m1).failed = f1 at *
  generalize (cntM xs m2).failed = f2 at *
  generalize (cntM xs m1).n = c1 at *
  generalize (cntM xs m2).n = c2 at *
  by_cases hle : m1 ≤ m2
  · cases f2
    · obtain ⟨rfl, rfl⟩ := law1 hle rfl
      have hcc : (c1 == c1) = true := by simp
      clear law1 law2
      go_wp2
      go_ret
      exact ⟨rfl, BE.out⟩
    · by_cases hge : m2 ≤ m1
      · cases f1
        · exact absurd (law2 hge rfl).1 (by simp)
        · clear law1 law2
          go_wp2
          go_ret
          exact ⟨rfl, BE.out⟩
      · clear law1 law2
        go_wp2
        go_ret
        exact ⟨rfl, BE.out⟩
  · have hge : m2 ≤ m1 := by omega
    cases f1
    · obtain ⟨rfl, rfl⟩ := law2 hge rfl
      have hcc : (c2 == c2) = true := by simp
      clear law1 law2
      go_wp2
      go_ret
      exact ⟨rfl, BE.out⟩
    · clear law1 law2
      go_wp2
      go_ret
      exact ⟨rfl, BE.out⟩

end Go.Proofs.Qxb6614386a
