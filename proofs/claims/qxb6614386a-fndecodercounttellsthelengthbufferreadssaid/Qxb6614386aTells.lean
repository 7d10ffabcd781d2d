/-
  THE WALK OF FnDecoderCountTellsTheLengthBufferReads.
-/
import Derived.Test.Qxb6614386aFresh
namespace Go.Proofs.Qxb6614386a
open Go.RowKit
set_option linter.unusedVariables false

/-! ### The plain law -/
theorem tells_failed (xs : List Int) : (bufM xs).failed = (cntM xs 1).failed := by
  unfold bufM cntM
  by_cases a1 : xs.length < 4
  · rw [if_pos a1, if_pos a1]; rfl
  rw [if_neg a1, if_neg a1]
  by_cases a2 : be xs = -1
  · rw [if_pos a2, if_pos a2]
  rw [if_neg a2, if_neg a2]
  by_cases a3 : be xs < 0
  · rw [if_pos a3, if_pos a3]; rfl
  rw [if_neg a3, if_neg a3]
  by_cases a4 : xs.length - 4 < (be xs).toNat
  · rw [if_pos a4, if_pos (by omega)]; rfl
  · rw [if_neg a4, if_neg (by omega)]

theorem tells_ok (xs : List Int) (h : (cntM xs 1).failed = false) : 4 ≤ xs.length ∧ (bufM xs).gotNil = (be xs == -1) ∧
    ∃ k : Nat, (cntM xs 1).n = (k : Int) ∧ k ≤ (xs.drop 4).length ∧ (cntM xs 1).rest = xs.drop 4 ∧ (bufM xs).got = (xs.drop 4).take k ∧ (bufM xs).rest = (xs.drop 4).drop k := by
  unfold cntM at h
  unfold bufM cntM
  by_cases a1 : xs.length < 4
  · rw [if_pos a1] at h; cases h
  rw [if_neg a1] at h
  rw [if_neg a1, if_neg a1]
  by_cases a2 : be xs = -1
  · rw [if_pos a2, if_pos a2]
    exact ⟨by omega, by rw [a2]; rfl, 0, rfl, Nat.zero_le _, rfl, by rw [List.take_zero], by rw [List.drop_zero]⟩
  rw [if_neg a2] at h
  rw [if_neg a2, if_neg a2]
  by_cases a3 : be xs < 0
  · rw [if_pos a3] at h; cases h
  rw [if_neg a3] at h
  rw [if_neg a3, if_neg a3]
  by_cases a4 : ((xs.length - 4 : Nat) : Int) < be xs * 1
  · rw [if_pos a4] at h; cases h
  rw [if_neg a4, if_neg (by omega)]
  refine ⟨by omega, ?_, (be xs).toNat, ?_, ?_, rfl, rfl, ?_⟩
  · symm; simp [a2]
  · show be xs = _
    omega
  · rw [List.length_drop]; omega
  · rw [List.drop_drop]

theorem Ar.pre {w : World} {b o n c : Nat} {xs : List Int} (h : Ar w (.slice (some ⟨b, o, none⟩) n c) xs) (k : Nat) (hk : k ≤ n) : Ar w (.slice (some ⟨b, o, none⟩) k c) (xs.take k) := by
  have h1 := h.len
  have := h.sub 0 k o c (Nat.zero_le _) hk (fun _ => rfl) (by omega) h1.2.2
  rwa [List.drop_zero, Nat.sub_zero] at this

set_option maxHeartbeats 8000000 in
set_option maxRecDepth 1000000 in
theorem tells_any (a : Option Addr) (n c : Nat) (xs : List Int) (w : World) (h : Ar w (.slice a n c) xs) (hnil : a = none → n = 0 ∧ c = 0) :
    Calls Try.prog 5 #[.slice a n c] w fun e w' => e = .returned (.bool true) ∧ Below w.heap.size w w' := by
  have hby := bytes19 a n c w
  obtain ⟨hlen, _, _⟩ := h.len
  have H0 : Hid (Ar w (.slice a n c) xs) := h
  have HL : Hid (n = xs.length) := hlen
  have HNIL : Hid (a = none → n = 0 ∧ c = 0) := hnil
  clear h hlen hnil
  by_cases hn : ¬ n ≤ 1048576
  · rw [decide_eq_false hn] at hby
    go_enter Try.func5, Try.ntmps5
    go_wp2_with fail
    refine hby.mono ?_
    rintro e w' ⟨rfl, hw⟩; subst w'
    go_wp2
    go_ret
    exact ⟨rfl, Below.refl _ _⟩
  have hn' : n ≤ 1048576 := by omega
  rw [decide_eq_true hn'] at hby
  have hz : ¬ (1048576 : Int) < (n : Int) := by omega
  have HN : Hid (n ≤ 1048576) := hn'
  have HLX : Hid (xs.length ≤ 1048576) := (by have := HL.out; omega : xs.length ≤ 1048576)
  have HRX : Hid ((cntM xs 1).rest.length ≤ 1048576) := (by
    cases hf : (cntM xs 1).failed
    · obtain ⟨_, _, k, _, _, hr, _⟩ := tells_ok xs hf
      rw [hr, List.length_drop]; have := HLX.out; omega
    · have : (cntM xs 1).rest = [] := by
        unfold cntM at hf ⊢
        split
        · rfl
        · split
          · rename_i h1 h2; rw [if_neg h1, if_pos h2] at hf; cases hf
          · split
            · rfl
            · split
              · rfl
              · rename_i h1 h2 h3 h4; rw [if_neg h1, if_neg h2, if_neg h3, if_neg h4] at hf; cases hf
      rw [this]; exact Nat.zero_le _ : (cntM xs 1).rest.length ≤ 1048576)
  clear hn hn'
  have en := eql22
  have nn := neq22
  go_enter Try.func5, Try.ntmps5
  go_wp2_with fail
  refine hby.mono ?_
  rintro e w' ⟨rfl, hw⟩; subst w'
  clear hby
  go_wp2_with fail
  refine (clone_ar a n c xs w H0.out HLX.out HNIL.out).mono ?_
  rintro e w1 ⟨⟨v0, rfl, hS1⟩, hB1⟩
  go_wp2_with fail
  refine (newDecoder_any v0 _ xs w1 hS1).mono ?_
  rintro e w2 ⟨rfl, hB2, hD2⟩
  have D1 : Hid (w.heap.size ≤ w1.heap.size) := hB1.size
  have B2 : Hid (Below w.heap.size w w2) := hB1.trans (hB2.mono hB1.size)
  have DD2 : Hid (Dec w2 w1.heap.size a.isNone false xs) := hD2
  generalize w1.heap.size = db at *
  clear hB1 hB2 hS1 hD2
  go_wp2_with fail
  refine (zzcount_any db _ xs 1 w2 DD2.out (by decide) (by decide)).mono ?_
  rintro e w3 ⟨rfl, hD3, hC3⟩
  have B3 : Hid (Below w.heap.size w w3) := B2.out.trans (hC3.below B2.out.size D1.out)
  clear hC3 DD2 B2
  go_wp2_with fail
  refine (rest_any db _ _ _ w3 hD3).mono ?_
  rintro e w' ⟨⟨r1, rfl, hR1⟩, hw⟩; subst w'
  go_wp2_with fail
  refine (clone_sl r1 _ _ w3 hR1 HRX.out).mono ?_
  rintro e w4 ⟨⟨s1, rfl, hT1⟩, hB4⟩
  have B4 : Hid (Below w.heap.size w w4) := B3.out.trans (hB4.mono B3.out.size)
  have D4 : Hid (Dec w4 db (cntM xs 1).failed (cntM xs 1).failed (cntM xs 1).rest) := hD3.of_below hB4
  have H4 : Hid (Ar w4 (.slice a n c) xs) := H0.out.of_below B4.out
  have T4 : Hid (Sl w4 s1 (cntM xs 1).failed (cntM xs 1).rest) := hT1
  clear hB4 hD3 hR1 hT1 B3
  go_wp2_with fail
  refine (failed_any db _ _ _ w4 D4.out).mono ?_
  rintro e w' ⟨rfl, hw⟩; subst w'
  go_wp2_with fail
  refine (cmatches a n c xs 1 s1 w4 H4.out HN.out (by decide) (by decide) T4.out).mono ?_
  rintro e w' ⟨rfl, q, hw⟩
  have B5 : Hid (Below w.heap.size w w') := (by rw [hw]; exact B4.out.trans ((below_drewN w4 q).mono B4.out.size) : Below w.heap.size w w')
  have T5 : Hid (Sl w' s1 (cntM xs 1).failed (cntM xs 1).rest) := (by rw [hw]; exact T4.out : Sl w' s1 (cntM xs 1).failed (cntM xs 1).rest)
  have H5 : Hid (Ar w' (.slice a n c) xs) := (by rw [hw]; exact H4.out : Ar w' (.slice a n c) xs)
  clear hw D4 H4 T4 B4 H0
  go_wp2_with fail
  refine (clone_ar a n c xs w' H5.out HLX.out HNIL.out).mono ?_
  rintro e w6 ⟨⟨v2, rfl, hS6⟩, hB6⟩
  go_wp2_with fail
  refine (newDecoder_any v2 _ xs w6 hS6).mono ?_
  rintro e w7 ⟨rfl, hB7, hD7⟩
  have hB67 : Below w'.heap.size w' w7 := hB6.trans (hB7.mono hB6.size)
  have D6 : Hid (w.heap.size ≤ w6.heap.size) := Nat.le_trans B5.out.size hB6.size
  have B7 : Hid (Below w.heap.size w w7) := B5.out.trans (hB67.mono B5.out.size)
  have T7 : Hid (Sl w7 s1 (cntM xs 1).failed (cntM xs 1).rest) := T5.out.of_below hB67
  have H7 : Hid (Ar w7 (.slice a n c) xs) := H5.out.of_below hB67
  have D7 : Hid (Dec w7 w6.heap.size a.isNone false xs) := hD7
  generalize w6.heap.size = db2 at *
  clear hB67 hB6 hB7 hS6 hD7 T5 H5 B5
  go_wp2_with fail
  refine (zzbuffer_any db2 _ _ xs w7 D7.out).mono ?_
  rintro e w8 ⟨v3, rfl, hV3, hD8, hC8⟩
  have B8 : Hid (Below w.heap.size w w8) := B7.out.trans (hC8.below B7.out.size D6.out)
  have T8 : Hid (Sl w8 s1 (cntM xs 1).failed (cntM xs 1).rest) := T7.out.chg (Dec.noInt D7.out) hC8
  have H8 : Hid (Ar w8 (.slice a n c) xs) := H7.out.chg (Dec.noInt D7.out) hC8
  clear hC8 T7 H7 B7 D7
  go_wp2_with fail
  refine (rest_any db2 _ _ _ w8 hD8).mono ?_
  rintro e w' ⟨⟨r3, rfl, hR3⟩, hw⟩; subst w'
  go_wp2_with fail
  refine (failed_any db2 _ _ _ w8 hD8).mono ?_
  rintro e w' ⟨rfl, hw⟩; subst w'
  clear hD8
  rw [tells_failed xs] at hR3 ⊢
  have TOK : Hid ((cntM xs 1).failed = false → _) := tells_ok xs
  have bt : (true != true) = false := rfl
  have bf : (false != false) = false := rfl
  cases hf : (cntM xs 1).failed
  · obtain ⟨h4, hgn, k, hk, hkl, hcr, hgot, hbr⟩ := TOK.out hf
    rw [hf] at hR3
    have T9 := T8.out
    rw [hf, hcr] at T9
    rw [hgn, hgot] at hV3
    rw [hbr] at hR3
    rw [hk]
    have hbe := Ar.be32 H8.out (by have := HL.out; omega)
    obtain ⟨a3, n3, c3, rfl, i3⟩ := hV3.form
    obtain ⟨a4, n4, c4, rfl, i4⟩ := hR3.form
    have V9 : Hid (Ar w8 (.slice a3 n3 c3) ((xs.drop 4).take k)) := hV3.ar
    have R9 : Hid (Ar w8 (.slice a4 n4 c4) ((xs.drop 4).drop k)) := hR3.ar
    have TA := T9.ar
    rcases T9 with ⟨h0, _⟩ | ⟨_, _, b5, o5, c5, rfl, hl5, hm5, _⟩
    · cases h0
    generalize hN5 : (xs.drop 4).length = n5 at *
    have TA9 : Hid (Ar w8 (.slice (some ⟨b5, o5, none⟩) n5 c5) (xs.drop 4)) := TA
    clear hV3 hR3 TA T8 H8 hN5 hgot hbr hcr hk hgn TOK hf h4
    generalize hg : (be xs == -1) = g at *
    have hgg : (g != g) = false := by simp
    unfold maxLen at hm5
    have q1 : (k : Int) ≤ (n5 : Int) := by omega
    have q2 : (k : Int) ≤ (c5 : Int) := by omega
    have q3 : (n5 : Int) ≤ (c5 : Int) := by omega
    go_wp2_with fail
    refine hbe.mono ?_
    rintro e w' ⟨rfl, q, hw⟩; subst w'
    have HR9 : Hid (∀ qq o' c' l', l' = n5 - k → (k < n5 → o' = o5 + k) → n5 - k ≤ c' → c' ≤ maxLen → Calls Try.prog 14 #[.slice a4 n4 c4, .slice (some ⟨b5, o', none⟩) l' c'] (w8.drewN qq) fun e w' => e = .returned (.bool true) ∧ ∃ q', w' = (w8.drewN qq).drewN q') :=
      (fun qq o' c' l' e0 e1 e2 e3 => e0 ▸ equal_same _ _ ((xs.drop 4).drop k) (w8.drewN qq) R9.out (Ar.rest TA9.out k o' c' (by omega) e1 e2 e3) : ∀ qq o' c' l', l' = n5 - k → (k < n5 → o' = o5 + k) → n5 - k ≤ c' → c' ≤ maxLen → Calls Try.prog 14 #[.slice a4 n4 c4, .slice (some ⟨b5, o', none⟩) l' c'] (w8.drewN qq) fun e w' => e = .returned (.bool true) ∧ ∃ q', w' = (w8.drewN qq).drewN q')
    by_cases hck : c5 = k
    · subst hck
      go_wp2_with fail
      refine (equal_same _ _ ((xs.drop 4).take c5) (w8.drewN q) V9.out (Ar.pre TA9.out c5 (by omega))).mono ?_
      rintro e w' ⟨rfl, q', hw⟩; subst w'
      go_wp2_with fail
      refine (HR9.out _ _ _ _ (by omega) (by omega) (by omega) (by unfold maxLen; omega)).mono ?_
      rintro e w' ⟨rfl, q'', hw⟩; subst w'
      go_wp2
      go_ret
      exact ⟨rfl, ⟨B8.out.os, B8.out.tape, B8.out.output, B8.out.size, B8.out.block⟩⟩
    · have hck2 : ¬ k = c5 := fun e => hck e.symm
      go_wp2_with fail
      refine (equal_same _ _ ((xs.drop 4).take k) (w8.drewN q) V9.out (Ar.pre TA9.out k (by omega))).mono ?_
      rintro e w' ⟨rfl, q', hw⟩; subst w'
      go_wp2_with fail
      refine (HR9.out _ _ _ _ (by omega) (by omega) (by omega) (by unfold maxLen; omega)).mono ?_
      rintro e w' ⟨rfl, q'', hw⟩; subst w'
      go_wp2
      go_ret
      exact ⟨rfl, ⟨B8.out.os, B8.out.tape, B8.out.output, B8.out.size, B8.out.block⟩⟩
  · have hd := bufM_dead xs (by rw [tells_failed, hf])
    rw [hd] at hV3
    rw [hf] at hR3
    obtain ⟨a3, n3, c3, rfl, i3⟩ := hV3.form
    obtain ⟨a4, n4, c4, rfl, i4⟩ := hR3.form
    have i3' : a3.isNone = true := i3
    clear i3 hV3 hR3 TOK T8 H8 hf hd
    go_wp2
    go_ret
    exact ⟨rfl, B8.out⟩

end Go.Proofs.Qxb6614386a
