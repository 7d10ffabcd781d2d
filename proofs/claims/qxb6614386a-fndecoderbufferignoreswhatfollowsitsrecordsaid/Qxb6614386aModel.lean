/-
  zzBufferModel, zzCountModel, zzBufferMatches, zzCountMatches.
-/
import Derived.Test.Qxb6614386aCopy
namespace Go.Proofs.Qxb6614386a
open Go.RowKit
set_option linter.unusedVariables false

theorem Ar.len {w : World} {a : Option Addr} {n c : Nat} {xs : List Int} (h : Ar w (.slice a n c) xs) : n = xs.length ∧ n ≤ c ∧ c ≤ maxLen := by
  obtain ⟨_, a', c', hv, h1, h2, _⟩ := h
  cases hv
  exact ⟨rfl, h1, h2⟩
theorem Ar.cells {w : World} {a : Option Addr} {n c : Nat} {xs : List Int} (h : Ar w (.slice a n c) xs) (h0 : 0 < n) : ∃ b o, a = some ⟨b, o, none⟩ ∧ Cells w b o xs := by
  obtain ⟨_, a', c', hv, h1, h2, h3⟩ := h
  cases hv
  exact h3 h0

theorem Ar.be32 {w : World} {a : Option Addr} {n c : Nat} {xs : List Int} (h : Ar w (.slice a n c) xs) (h4 : 4 ≤ n) :
    Calls Try.prog 18 #[.slice a n c] w fun e w' => e = .returned (.int .i32 (be xs)) ∧ ∃ q, w' = w.drewN q := by
  obtain ⟨hn, h1, h2⟩ := h.len
  obtain ⟨b, o, rfl, hc⟩ := h.cells (by omega)
  exact be32_any b o n c xs w hn (by omega) h4 h.1 hc

set_option maxHeartbeats 4000000 in
set_option maxRecDepth 100000 in
theorem bmodel_any (a : Option Addr) (n c : Nat) (xs : List Int) (w : World) (h : Ar w (.slice a n c) xs) :
    Calls Try.prog 17 #[.slice a n c] w fun e w' => e = .returned (.tuple #[.int .i64 (((bufM xs).hi : Nat) : Int), .bool (bufM xs).gotNil, .bool (bufM xs).failed]) ∧ ∃ q, w' = w.drewN q := by
  obtain ⟨hn, h1, h2⟩ := h.len
  unfold maxLen at h2
  have hrg := be_range xs
  unfold bufM
  rw [← hn]
  by_cases h4 : n < 4
  · rw [if_pos h4]
    have hz : (n : Int) < 4 := by omega
    clear h
    go_enter Try.func17, Try.ntmps17
    go_wp2
    go_ret3
    exact ⟨rfl, 0, rfl⟩
  rw [if_neg h4]
  have hz : ¬ (n : Int) < 4 := by omega
  have hb := h.be32 (by omega)
  clear h hn
  by_cases hB : be xs = -1
  · rw [if_pos hB]
    rw [hB] at hb
    go_enter Try.func17, Try.ntmps17
    go_wp2_with fail
    refine hb.mono ?_
    rintro e w1 ⟨rfl, q, rfl⟩
    go_wp2
    go_ret3
    exact ⟨rfl, q, rfl⟩
  rw [if_neg hB]
  by_cases hNeg : be xs < 0
  · rw [if_pos hNeg]
    have hb1 : (be xs == -1) = false := by simp [hB]
    clear hB
    generalize be xs = z at *
    go_enter Try.func17, Try.ntmps17
    go_wp2_with fail
    refine hb.mono ?_
    rintro e w1 ⟨rfl, q, rfl⟩
    go_wp2
    go_ret3
    exact ⟨rfl, q, rfl⟩
  rw [if_neg hNeg]
  obtain ⟨k, hk⟩ : ∃ k : Nat, be xs = (k : Int) := ⟨(be xs).toNat, by omega⟩
  rw [hk] at hb hrg ⊢
  rw [Int.toNat_natCast]
  clear hB hNeg hk
  have hb1 : ((k : Int) == -1) = false := by simp
  have hb2 : decide ((k : Int) < 0) = false := by simp
  obtain ⟨l, hl, hln⟩ : ∃ l : Nat, (n : Int) - 4 = (l : Int) ∧ n - 4 = l := ⟨n - 4, by omega, rfl⟩
  rw [hln]
  by_cases hD' : l < k
  · rw [if_pos hD']
    have hq : (l : Int) < (k : Int) := by omega
    go_enter Try.func17, Try.ntmps17
    go_wp2_with fail
    refine hb.mono ?_
    rintro e w1 ⟨rfl, q, rfl⟩
    go_wp2
    go_ret3
    exact ⟨rfl, q, rfl⟩
  · rw [if_neg hD']
    have hq : ¬ (l : Int) < (k : Int) := by omega
    obtain ⟨t, ht, ht2⟩ : ∃ t : Nat, (4 : Int) + (k : Int) = (t : Int) ∧ 4 + k = t := ⟨4 + k, by omega, rfl⟩
    rw [ht2]
    go_enter Try.func17, Try.ntmps17
    go_wp2_with fail
    refine hb.mono ?_
    rintro e w1 ⟨rfl, q, rfl⟩
    go_wp2
    go_ret3
    exact ⟨rfl, q, rfl⟩

set_option maxHeartbeats 4000000 in
set_option maxRecDepth 100000 in
theorem cmodel_any (a : Option Addr) (n c : Nat) (xs : List Int) (m : Int) (w : World) (h : Ar w (.slice a n c) xs) (hN : n ≤ 1048576) (hm : 1 ≤ m) (hm2 : m < 9223372036854775808) :
    Calls Try.prog 25 #[.slice a n c, .int .i64 m] w fun e w' => e = .returned (.tuple #[.int .i64 (cntM xs m).n, .bool (cntM xs m).failed]) ∧ ∃ q, w' = w.drewN q := by
  obtain ⟨hn, h1, h2⟩ := h.len
  unfold maxLen at h2
  have hrg := be_range xs
  unfold cntM
  rw [← hn]
  by_cases h4 : n < 4
  · rw [if_pos h4]
    have hz : (n : Int) < 4 := by omega
    clear h
    go_enter Try.func25, Try.ntmps25
    go_wp2
    go_ret2
    exact ⟨rfl, 0, rfl⟩
  rw [if_neg h4]
  have hz : ¬ (n : Int) < 4 := by omega
  have hb := h.be32 (by omega)
  clear h hn
  by_cases hB : be xs = -1
  · rw [if_pos hB]
    rw [hB] at hb
    go_enter Try.func25, Try.ntmps25
    go_wp2_with fail
    refine hb.mono ?_
    rintro e w1 ⟨rfl, q, rfl⟩
    go_wp2
    go_ret2
    exact ⟨rfl, q, rfl⟩
  rw [if_neg hB]
  by_cases hNeg : be xs < 0
  · rw [if_pos hNeg]
    have hb1 : (be xs == -1) = false := by simp [hB]
    have hb0 : (be xs == 0) = false := by simp; omega
    clear hB
    generalize be xs = z at *
    go_enter Try.func25, Try.ntmps25
    go_wp2_with fail
    refine hb.mono ?_
    rintro e w1 ⟨rfl, q, rfl⟩
    go_wp2
    go_ret2
    exact ⟨rfl, q, rfl⟩
  rw [if_neg hNeg]
  obtain ⟨k, hk⟩ : ∃ k : Nat, be xs = (k : Int) := ⟨(be xs).toNat, by omega⟩
  rw [hk] at hb hrg ⊢
  clear hB hNeg hk
  have hb1 : ((k : Int) == -1) = false := by simp
  have hb2 : decide ((k : Int) < 0) = false := by simp
  obtain ⟨l, hl, hln⟩ : ∃ l : Nat, (n : Int) - 4 = (l : Int) ∧ n - 4 = l := ⟨n - 4, by omega, rfl⟩
  rw [hln]
  by_cases hk0 : k = 0
  · subst hk0
    rw [if_neg (by omega)]
    go_enter Try.func25, Try.ntmps25
    go_wp2_with fail
    refine hb.mono ?_
    rintro e w1 ⟨rfl, q, rfl⟩
    go_wp2
    go_ret2
    exact ⟨rfl, q, rfl⟩
  have hb0 : ((k : Int) == 0) = false := by simp; omega
  have hlm : m ≤ (k : Int) * m := by
    have := Int.mul_le_mul_of_nonneg_right (a := 1) (b := (k : Int)) (c := m) (by omega) (by omega)
    omega
  by_cases hml : (l : Int) < m
  · rw [if_pos (by omega)]
    clear hlm
    go_enter Try.func25, Try.ntmps25
    go_wp2_with fail
    refine hb.mono ?_
    rintro e w1 ⟨rfl, q, rfl⟩
    go_wp2
    go_ret2
    exact ⟨rfl, q, rfl⟩
  have hbig : (k : Int) * m ≤ (k : Int) * 1048576 := Int.mul_le_mul_of_nonneg_left (by omega) (by omega)
  obtain ⟨p, hp⟩ : ∃ p : Int, (k : Int) * m = p := ⟨_, rfl⟩
  rw [hp] at hlm hbig ⊢
  have hp0 : -9223372036854775808 ≤ p ∧ p < 9223372036854775808 := by omega
  have hwp : wrap64 p = p := by unfold wrap64; omega
  by_cases hD' : (l : Int) < p
  · rw [if_pos hD']
    go_enter Try.func25, Try.ntmps25
    go_wp2_with fail
    refine hb.mono ?_
    rintro e w1 ⟨rfl, q, rfl⟩
    go_wp2
    go_ret2
    exact ⟨rfl, q, rfl⟩
  · rw [if_neg hD']
    go_enter Try.func25, Try.ntmps25
    go_wp2_with fail
    refine hb.mono ?_
    rintro e w1 ⟨rfl, q, rfl⟩
    go_wp2
    go_ret2
    exact ⟨rfl, q, rfl⟩

/-- A part of a slice. -/
theorem Ar.sub {w : World} {b o n c : Nat} {xs : List Int} (h : Ar w (.slice (some ⟨b, o, none⟩) n c) xs) (i j o' c' : Nat) (hij : i ≤ j) (hjn : j ≤ n) (ho : i < j → o' = o + i) (hc : j - i ≤ c') (hc' : c' ≤ maxLen) :
    Ar w (.slice (some ⟨b, o', none⟩) (j - i) c') ((xs.take j).drop i) := by
  obtain ⟨hn, h1, h2⟩ := h.len
  have hlen : ((xs.take j).drop i).length = j - i := by rw [List.length_drop, List.length_take]; omega
  refine ⟨(h.1.take j).drop i, some ⟨b, o', none⟩, c', by rw [hlen], by rw [hlen]; exact hc, hc', fun h0 => ?_⟩
  rw [hlen] at h0
  obtain ⟨b1, o1, he, hcl⟩ := h.cells (by omega)
  cases he
  exact ⟨b, o', rfl, (hcl.take j).drop i (fun _ => ho (by omega))⟩
theorem Ar.rest {w : World} {b o n c : Nat} {xs : List Int} (h : Ar w (.slice (some ⟨b, o, none⟩) n c) xs) (i o' c' : Nat) (hi : i ≤ n) (ho : i < n → o' = o + i) (hc : n - i ≤ c') (hc' : c' ≤ maxLen) :
    Ar w (.slice (some ⟨b, o', none⟩) (n - i) c') (xs.drop i) := by
  have := h.sub i n o' c' hi (Nat.le_refl _) ho hc hc'
  rwa [h.len.1, List.take_length, ← h.len.1] at this
theorem Ar.drewN {w : World} {v : Value} {xs : List Int} (h : Ar w v xs) (q : Nat) : Ar (w.drewN q) v xs := h

end Go.Proofs.Qxb6614386a
