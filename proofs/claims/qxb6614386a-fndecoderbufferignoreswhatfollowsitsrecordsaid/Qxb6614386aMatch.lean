/-
  zzCountMatches, zzBufferMatches.
-/
import Derived.Test.Qxb6614386aModel
namespace Go.Proofs.Qxb6614386a
open Go.RowKit
set_option linter.unusedVariables false

set_option maxHeartbeats 1000000 in
set_option maxRecDepth 100000 in
theorem cmatches (a : Option Addr) (n c : Nat) (xs : List Int) (m : Int) (rv : Value) (w : World) (h : Ar w (.slice a n c) xs) (hN : n ≤ 1048576) (hm : 1 ≤ m) (hm2 : m < 9223372036854775808)
    (hr : Sl w rv (cntM xs m).failed (cntM xs m).rest) :
    Calls Try.prog 21 #[.slice a n c, .int .i64 m, .int .i64 (cntM xs m).n, rv, .bool (cntM xs m).failed] w fun e w' => e = .returned (.bool true) ∧ ∃ q, w' = w.drewN q := by
  have hmod := cmodel_any a n c xs m w h hN hm hm2
  obtain ⟨hn, h1, h2⟩ := h.len
  have hok : (cntM xs m).failed = false → 4 ≤ n ∧ (cntM xs m).rest = xs.drop 4 := by
    unfold cntM
    rw [← hn]
    split
    · intro h; cases h
    · split
      · intro _; exact ⟨by omega, rfl⟩
      · split
        · intro h; cases h
        · split
          · intro h; cases h
          · intro _; exact ⟨by omega, rfl⟩
  have hH : Hid _ := h
  have en := eql22
  have nn := neq22
  generalize hz : (cntM xs m).n = z at *
  have hzz : (z != z) = false := by simp
  generalize (cntM xs m).failed = f at *
  cases f
  · obtain ⟨h4, hre⟩ := hok rfl
    rw [hre] at hr
    have hRA := hr.ar
    rcases hr with ⟨h0, _⟩ | ⟨_, hxr, b1, o1, c1, rfl, _⟩
    · cases h0
    obtain ⟨b, o, rfl, _⟩ := h.cells (by omega)
    unfold maxLen at h2
    have q1 : (4 : Int) ≤ (n : Int) := by omega
    have q2 : (n : Int) ≤ (c : Int) := by omega
    have heq : ∀ q o' c' l', l' = n - 4 → (4 < n → o' = o + 4) → n - 4 ≤ c' → c' ≤ maxLen → Calls Try.prog 14 #[.slice (some ⟨b1, o1, none⟩) (xs.drop 4).length c1, .slice (some ⟨b, o', none⟩) l' c'] (w.drewN q) fun e w' => e = .returned (.bool true) ∧ ∃ q', w' = (w.drewN q).drewN q' :=
      fun q o' c' l' e0 e1 e2 e3 => e0 ▸ equal_same _ _ (xs.drop 4) (w.drewN q) hRA (Ar.rest (xs := xs) hH.out 4 o' c' (by omega) e1 e2 e3)
    have HE : Hid _ := heq
    clear h heq hok hre hxr hRA hn
    generalize (xs.drop 4).length = l1 at *
    by_cases hc4 : c = 4
    · subst hc4
      go_enter Try.func21, Try.ntmps21
      go_wp2_with fail
      refine hmod.mono ?_
      rintro e w1 ⟨rfl, q, rfl⟩
      go_wp2_with fail
      refine (HE.out q _ _ _ (by omega) (by omega) (by omega) (by unfold maxLen; omega)).mono ?_
      rintro e w2 ⟨rfl, q', rfl⟩
      go_wp2
      go_ret
      exact ⟨rfl, q + q', rfl⟩
    · go_enter Try.func21, Try.ntmps21
      go_wp2_with fail
      refine hmod.mono ?_
      rintro e w1 ⟨rfl, q, rfl⟩
      go_wp2_with fail
      refine (HE.out q _ _ _ (by omega) (by omega) (by omega) (by unfold maxLen; omega)).mono ?_
      rintro e w2 ⟨rfl, q', rfl⟩
      go_wp2
      go_ret
      exact ⟨rfl, q + q', rfl⟩
  · rcases hr with ⟨_, _, rfl⟩ | ⟨h0, _⟩
    · clear h hok hn
      go_enter Try.func21, Try.ntmps21
      go_wp2_with fail
      refine hmod.mono ?_
      rintro e w1 ⟨rfl, q, rfl⟩
      go_wp2
      go_ret
      exact ⟨rfl, q, rfl⟩
    · cases h0

theorem bufM_dead (xs : List Int) (h : (bufM xs).failed = true) : bufM xs = .dead := by
  unfold bufM at h ⊢
  split at h <;> rename_i h1
  · rw [if_pos h1]
  rw [if_neg h1]
  split at h <;> rename_i h2
  · cases h
  rw [if_neg h2]
  split at h <;> rename_i h3
  · rw [if_pos h3]
  rw [if_neg h3]
  split at h <;> rename_i h5
  · rw [if_pos h5]
  · cases h
theorem bufM_ok (xs : List Int) (h : (bufM xs).failed = false) : 4 ≤ (bufM xs).hi ∧ (bufM xs).hi ≤ xs.length ∧ (bufM xs).rest = xs.drop (bufM xs).hi ∧
    (((bufM xs).gotNil = true ∧ (bufM xs).got = []) ∨ ((bufM xs).gotNil = false ∧ (bufM xs).got = (xs.take (bufM xs).hi).drop 4)) := by
  by_cases h1 : xs.length < 4
  · have : bufM xs = .dead := by unfold bufM; rw [if_pos h1]
    rw [this] at h; cases h
  by_cases h2 : be xs = -1
  · have : bufM xs = ⟨true, [], false, xs.drop 4, 4⟩ := by unfold bufM; rw [if_neg h1, if_pos h2]
    rw [this]
    exact ⟨Nat.le_refl 4, by show 4 ≤ _; omega, rfl, .inl ⟨rfl, rfl⟩⟩
  by_cases h3 : be xs < 0
  · have : bufM xs = .dead := by unfold bufM; rw [if_neg h1, if_neg h2, if_pos h3]
    rw [this] at h; cases h
  by_cases h5 : xs.length - 4 < (be xs).toNat
  · have : bufM xs = .dead := by unfold bufM; rw [if_neg h1, if_neg h2, if_neg h3, if_pos h5]
    rw [this] at h; cases h
  · have : bufM xs = ⟨false, (xs.drop 4).take (be xs).toNat, false, xs.drop (4 + (be xs).toNat), 4 + (be xs).toNat⟩ := by unfold bufM; rw [if_neg h1, if_neg h2, if_neg h3, if_neg h5]
    rw [this]
    refine ⟨by show 4 ≤ 4 + _; omega, by show 4 + _ ≤ _; omega, rfl, .inr ⟨rfl, ?_⟩⟩
    show (xs.drop 4).take (be xs).toNat = (xs.take (4 + (be xs).toNat)).drop 4
    rw [List.drop_take]
    congr 1
    omega

set_option maxHeartbeats 4000000 in
set_option maxRecDepth 100000 in
theorem bmatches (a : Option Addr) (n c : Nat) (xs : List Int) (gv rv : Value) (w : World) (h : Ar w (.slice a n c) xs)
    (hg : Sl w gv (bufM xs).gotNil (bufM xs).got) (hr : Sl w rv (bufM xs).failed (bufM xs).rest) :
    Calls Try.prog 12 #[.slice a n c, gv, rv, .bool (bufM xs).failed] w fun e w' => e = .returned (.bool true) ∧ ∃ q, w' = w.drewN q := by
  have hmod := bmodel_any a n c xs w h
  obtain ⟨hn, h1, h2⟩ := h.len
  have hok := bufM_ok xs
  have hdd := bufM_dead xs
  have hH : Hid _ := h
  have en := eql22
  have nn := neq22
  generalize hR : bufM xs = R at *
  obtain ⟨gn, got, f, rest, hi⟩ := R
  have bt : (true != true) = false := rfl
  have bf : (false != false) = false := rfl
  simp only at hmod hok hdd hg hr ⊢
  cases f
  · obtain ⟨h4, hin, hre, hgt⟩ := hok rfl
    rw [← hn] at hin
    subst hre
    have hRA := hr.ar
    rcases hr with ⟨h0, _⟩ | ⟨_, hxr, b1, o1, c1, rfl, _⟩
    · cases h0
    obtain ⟨b, o, rfl, _⟩ := h.cells (by omega)
    unfold maxLen at h2
    have q1 : (4 : Int) ≤ (hi : Int) := by omega
    have q2 : (hi : Int) ≤ (n : Int) := by omega
    have q3 : (n : Int) ≤ (c : Int) := by omega
    have q4 : (hi : Int) ≤ (c : Int) := by omega
    have heq : ∀ q o' c' l', l' = n - hi → (hi < n → o' = o + hi) → n - hi ≤ c' → c' ≤ maxLen → Calls Try.prog 14 #[.slice (some ⟨b1, o1, none⟩) (xs.drop hi).length c1, .slice (some ⟨b, o', none⟩) l' c'] (w.drewN q) fun e w' => e = .returned (.bool true) ∧ ∃ q', w' = (w.drewN q).drewN q' :=
      fun q o' c' l' e0 e1 e2 e3 => e0 ▸ equal_same _ _ (xs.drop hi) (w.drewN q) hRA (Ar.rest (xs := xs) hH.out hi o' c' (by omega) e1 e2 e3)
    have HE : Hid _ := heq
    rcases hgt with ⟨rfl, rfl⟩ | ⟨rfl, rfl⟩
    · rcases hg with ⟨_, _, rfl⟩ | ⟨h0, _⟩
      · clear h heq hok hdd hxr hRA hn hR hH
        generalize (xs.drop hi).length = l1 at *
        by_cases hch : c = hi
        · subst hch
          go_enter Try.func12, Try.ntmps12
          go_wp2_with fail
          refine hmod.mono ?_
          rintro e w1 ⟨rfl, q, rfl⟩
          go_wp2_with fail
          refine (HE.out q _ _ _ (by omega) (by omega) (by omega) (by unfold maxLen; omega)).mono ?_
          rintro e w2 ⟨rfl, q', rfl⟩
          go_wp2
          go_ret
          exact ⟨rfl, q + q', rfl⟩
        · go_enter Try.func12, Try.ntmps12
          go_wp2_with fail
          refine hmod.mono ?_
          rintro e w1 ⟨rfl, q, rfl⟩
          go_wp2_with fail
          refine (HE.out q _ _ _ (by omega) (by omega) (by omega) (by unfold maxLen; omega)).mono ?_
          rintro e w2 ⟨rfl, q', rfl⟩
          go_wp2
          go_ret
          exact ⟨rfl, q + q', rfl⟩
      · cases h0
    · have hGA := hg.ar
      rcases hg with ⟨h0, _⟩ | ⟨_, hxg, b2, o2, c2, rfl, _⟩
      · cases h0
      have hgq : ∀ q o' c' l', l' = hi - 4 → (4 < hi → o' = o + 4) → hi - 4 ≤ c' → c' ≤ maxLen → Calls Try.prog 14 #[.slice (some ⟨b2, o2, none⟩) ((xs.take hi).drop 4).length c2, .slice (some ⟨b, o', none⟩) l' c'] (w.drewN q) fun e w' => e = .returned (.bool true) ∧ ∃ q', w' = (w.drewN q).drewN q' :=
        fun q o' c' l' e0 e1 e2 e3 => e0 ▸ equal_same _ _ ((xs.take hi).drop 4) (w.drewN q) hGA (Ar.sub (xs := xs) hH.out 4 hi o' c' (by omega) (by omega) e1 e2 e3)
      have HG : Hid _ := hgq
      clear h heq hgq hok hdd hxr hRA hn hR hxg hGA hH
      generalize (xs.drop hi).length = l1 at *
      generalize ((xs.take hi).drop 4).length = l2 at *
      by_cases hc4 : c = 4
      · subst hc4
        obtain rfl : hi = 4 := by omega
        go_enter Try.func12, Try.ntmps12
        go_wp2_with fail
        refine hmod.mono ?_
        rintro e w1 ⟨rfl, q, rfl⟩
        go_wp2_with fail
        refine (HG.out q _ _ _ (by omega) (by omega) (by omega) (by unfold maxLen; omega)).mono ?_
        rintro e w2 ⟨rfl, q', rfl⟩
        go_wp2_with fail
        refine (HE.out (q + q') _ _ _ (by omega) (by omega) (by omega) (by unfold maxLen; omega)).mono ?_
        rintro e w2 ⟨rfl, q'', rfl⟩
        go_wp2
        go_ret
        exact ⟨rfl, q + q' + q'', rfl⟩
      by_cases hch : c = hi
      · subst hch
        go_enter Try.func12, Try.ntmps12
        go_wp2_with fail
        refine hmod.mono ?_
        rintro e w1 ⟨rfl, q, rfl⟩
        go_wp2_with fail
        refine (HG.out q _ _ _ (by omega) (by omega) (by omega) (by unfold maxLen; omega)).mono ?_
        rintro e w2 ⟨rfl, q', rfl⟩
        go_wp2_with fail
        refine (HE.out (q + q') _ _ _ (by omega) (by omega) (by omega) (by unfold maxLen; omega)).mono ?_
        rintro e w2 ⟨rfl, q'', rfl⟩
        go_wp2
        go_ret
        exact ⟨rfl, q + q' + q'', rfl⟩
      · go_enter Try.func12, Try.ntmps12
        go_wp2_with fail
        refine hmod.mono ?_
        rintro e w1 ⟨rfl, q, rfl⟩
        go_wp2_with fail
        refine (HG.out q _ _ _ (by omega) (by omega) (by omega) (by unfold maxLen; omega)).mono ?_
        rintro e w2 ⟨rfl, q', rfl⟩
        go_wp2_with fail
        refine (HE.out (q + q') _ _ _ (by omega) (by omega) (by omega) (by unfold maxLen; omega)).mono ?_
        rintro e w2 ⟨rfl, q'', rfl⟩
        go_wp2
        go_ret
        exact ⟨rfl, q + q' + q'', rfl⟩
  · have hd := hdd rfl
    unfold BR.dead at hd
    injection hd with e1 e2 e3 e4 e5
    subst e1 e2 e4 e5
    rcases hr with ⟨_, _, rfl⟩ | ⟨h0, _⟩
    · rcases hg with ⟨_, _, rfl⟩ | ⟨h0, _⟩
      · clear h hok hdd hn hR hH
        go_enter Try.func12, Try.ntmps12
        go_wp2_with fail
        refine hmod.mono ?_
        rintro e w1 ⟨rfl, q, rfl⟩
        go_wp2
        go_ret
        exact ⟨rfl, q, rfl⟩
      · cases h0
    · cases h0

end Go.Proofs.Qxb6614386a
