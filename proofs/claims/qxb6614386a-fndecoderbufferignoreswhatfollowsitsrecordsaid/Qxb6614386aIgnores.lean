/-
  THE WALK OF FnDecoderBufferIgnoresWhatFollowsItsRecord.
-/
import Derived.Test.Qxb6614386aJoin
namespace Go.Proofs.Qxb6614386a
open Go.RowKit
set_option linter.unusedVariables false

/-! ### The plain law -/
theorem be_append (xs ys : List Int) (h : 4 ≤ xs.length) : be (xs ++ ys) = be xs := by
  unfold be beU
  rw [getD_left xs ys 0 (by omega), getD_left xs ys 1 (by omega), getD_left xs ys 2 (by omega), getD_left xs ys 3 (by omega)]

theorem ignores_ok (xs ys : List Int) (h : (bufM xs).failed = false) :
    (bufM (xs ++ ys)).failed = false ∧ (bufM (xs ++ ys)).gotNil = (bufM xs).gotNil ∧ (bufM (xs ++ ys)).got = (bufM xs).got ∧ (bufM (xs ++ ys)).rest = (xs ++ ys).drop (bufM xs).hi ∧ (bufM xs).hi ≤ (xs ++ ys).length := by
  have hl : (xs ++ ys).length = xs.length + ys.length := List.length_append
  by_cases a1 : xs.length < 4
  · have : bufM xs = .dead := by unfold bufM; rw [if_pos a1]
    rw [this] at h; cases h
  have hbe := be_append xs ys (by omega)
  by_cases a2 : be xs = -1
  · have e1 : bufM xs = ⟨true, [], false, xs.drop 4, 4⟩ := by unfold bufM; rw [if_neg a1, if_pos a2]
    have e2 : bufM (xs ++ ys) = ⟨true, [], false, (xs ++ ys).drop 4, 4⟩ := by unfold bufM; rw [if_neg (by omega), hbe, if_pos a2]
    rw [e1, e2]
    exact ⟨rfl, rfl, rfl, rfl, by show 4 ≤ _; omega⟩
  by_cases a3 : be xs < 0
  · have : bufM xs = .dead := by unfold bufM; rw [if_neg a1, if_neg a2, if_pos a3]
    rw [this] at h; cases h
  by_cases a4 : xs.length - 4 < (be xs).toNat
  · have : bufM xs = .dead := by unfold bufM; rw [if_neg a1, if_neg a2, if_neg a3, if_pos a4]
    rw [this] at h; cases h
  · have e1 : bufM xs = ⟨false, (xs.drop 4).take (be xs).toNat, false, xs.drop (4 + (be xs).toNat), 4 + (be xs).toNat⟩ := by unfold bufM; rw [if_neg a1, if_neg a2, if_neg a3, if_neg a4]
    have e2 : bufM (xs ++ ys) = ⟨false, ((xs ++ ys).drop 4).take (be xs).toNat, false, (xs ++ ys).drop (4 + (be xs).toNat), 4 + (be xs).toNat⟩ := by
      unfold bufM; rw [if_neg (by omega), hbe, if_neg a2, if_neg a3, if_neg (by omega)]
    rw [e1, e2]
    refine ⟨rfl, rfl, ?_, rfl, by show 4 + _ ≤ _; omega⟩
    show ((xs ++ ys).drop 4).take (be xs).toNat = (xs.drop 4).take (be xs).toNat
    rw [List.drop_append_of_le_length (by omega), List.take_append_of_le_length (by rw [List.length_drop]; omega)]

theorem ignores_neg (xs ys : List Int) (h4 : 4 ≤ xs.length) (h : be xs < -1) : bufM (xs ++ ys) = .dead := by
  have hl : (xs ++ ys).length = xs.length + ys.length := List.length_append
  unfold bufM
  rw [if_neg (by omega), be_append xs ys h4, if_neg (by omega), if_pos (by omega)]

set_option maxHeartbeats 8000000 in
set_option maxRecDepth 1000000 in
theorem ignores_any (a : Option Addr) (n c : Nat) (xs : List Int) (a' : Option Addr) (n' c' : Nat) (ys : List Int) (w : World) (h : Ar w (.slice a n c) xs) (hnil : a = none → n = 0 ∧ c = 0) (h' : Ar w (.slice a' n' c') ys) :
    Calls Try.prog 4 #[.slice a n c, .slice a' n' c'] w fun e w' => e = .returned (.bool true) ∧ Below w.heap.size w w' := by
  obtain ⟨hlen, hnc, hcm⟩ := h.len
  obtain ⟨hlen', hnc', hcm'⟩ := h'.len
  have hby := bytes15 a n c a' n' c' w (by omega) (by omega)
  have H0 : Hid (Ar w (.slice a n c) xs) := h
  have G0 : Hid (Ar w (.slice a' n' c') ys) := h'
  have HL : Hid (n = xs.length) := hlen
  have HNIL : Hid (a = none → n = 0 ∧ c = 0) := hnil
  clear h hlen hnil h' hlen' hnc hnc' hcm hcm'
  by_cases hn : ¬ n + n' ≤ 1048576
  · rw [decide_eq_false hn] at hby
    go_enter Try.func4, Try.ntmps4
    go_wp2_with fail
    refine hby.mono ?_
    rintro e w' ⟨rfl, hw⟩; subst w'
    go_wp2
    go_ret
    exact ⟨rfl, Below.refl _ _⟩
  have hn' : n + n' ≤ 1048576 := by omega
  rw [decide_eq_true hn'] at hby
  have hz : ¬ (1048576 : Int) < (n : Int) := by omega
  obtain ⟨t, ht, htt⟩ : ∃ t : Nat, (1048576 : Int) - (n : Int) = (t : Int) ∧ n' ≤ t := ⟨1048576 - n, by omega, by omega⟩
  have hzt : ¬ (t : Int) < (n' : Int) := by omega
  have HN : Hid (n + n' ≤ 1048576) := hn'
  have HLX : Hid (xs.length ≤ 1048576) := (by have := HL.out; omega : xs.length ≤ 1048576)
  clear hn hn' htt
  have en := eql22
  have nn := neq22
  go_enter Try.func4, Try.ntmps4
  go_wp2_with fail
  refine hby.mono ?_
  rintro e w' ⟨rfl, hw⟩; subst w'
  clear hby
  go_wp2_with fail
  refine (clone_ar a n c xs w H0.out HLX.out HNIL.out).mono ?_
  rintro e w1 ⟨⟨v0, rfl, hS1⟩, hB1⟩
  go_wp2_with fail
  refine (newDecoder_any v0 _ xs w1 hS1).mono ?_
  rintro e w2 ⟨rfl, hB2, hD2⟩
  have D1 : Hid (w.heap.size ≤ w1.heap.size) := hB1.size
  have B2 : Hid (Below w.heap.size w w2) := hB1.trans (hB2.mono hB1.size)
  have DD2 : Hid (Dec w2 w1.heap.size a.isNone false xs) := hD2
  generalize w1.heap.size = db at *
  clear hB1 hB2 hS1 hD2
  go_wp2_with fail
  refine (zzbuffer_any db _ _ xs w2 DD2.out).mono ?_
  rintro e w3 ⟨g1, rfl, hV1, hD3, hC3⟩
  have B3 : Hid (Below w.heap.size w w3) := B2.out.trans (hC3.below B2.out.size D1.out)
  have V3 : Hid (Sl w3 g1 (bufM xs).gotNil (bufM xs).got) := hV1
  have H3 : Hid (Ar w3 (.slice a n c) xs) := H0.out.of_below B3.out
  have G3 : Hid (Ar w3 (.slice a' n' c') ys) := G0.out.of_below B3.out
  clear hC3 DD2 B2 hV1 H0 G0
  go_wp2_with fail
  refine (rest_any db _ _ _ w3 hD3).mono ?_
  rintro e w' ⟨⟨r1, rfl, hR1⟩, hw⟩; subst w'
  go_wp2_with fail
  refine (failed_any db _ _ _ w3 hD3).mono ?_
  rintro e w' ⟨rfl, hw⟩; subst w'
  go_wp2_with fail
  refine (bmatches a n c xs g1 r1 w3 H3.out V3.out hR1).mono ?_
  rintro e w4 ⟨rfl, q, hw⟩
  have hB34 : Below w3.heap.size w3 w4 := by rw [hw]; exact below_drewN w3 q
  have B4 : Hid (Below w.heap.size w w4) := B3.out.trans (hB34.mono B3.out.size)
  have V4 : Hid (Sl w4 g1 (bufM xs).gotNil (bufM xs).got) := V3.out.of_below hB34
  have H4 : Hid (Ar w4 (.slice a n c) xs) := H3.out.of_below hB34
  have G4 : Hid (Ar w4 (.slice a' n' c') ys) := G3.out.of_below hB34
  clear hw hB34 hD3 hR1 V3 H3 G3 B3
  go_wp2_with fail
  refine (join_any a n c a' n' c' xs ys w4 H4.out G4.out HN.out).mono ?_
  rintro e w5 ⟨⟨v2, rfl, hS5⟩, hB5⟩
  go_wp2_with fail
  refine (newDecoder_any v2 _ (xs ++ ys) w5 hS5).mono ?_
  rintro e w6 ⟨rfl, hB6, hD6⟩
  have hB46 : Below w4.heap.size w4 w6 := hB5.trans (hB6.mono hB5.size)
  have D5 : Hid (w.heap.size ≤ w5.heap.size) := Nat.le_trans B4.out.size hB5.size
  have B6 : Hid (Below w.heap.size w w6) := B4.out.trans (hB46.mono B4.out.size)
  have V6 : Hid (Sl w6 g1 (bufM xs).gotNil (bufM xs).got) := V4.out.of_below hB46
  have H6 : Hid (Ar w6 (.slice a n c) xs) := H4.out.of_below hB46
  have G6 : Hid (Ar w6 (.slice a' n' c') ys) := G4.out.of_below hB46
  have D6 : Hid (Dec w6 w5.heap.size false false (xs ++ ys)) := hD6
  generalize w5.heap.size = db2 at *
  clear hB46 hB5 hB6 hS5 hD6 V4 H4 G4 B4
  go_wp2_with fail
  refine (zzbuffer_any db2 _ _ (xs ++ ys) w6 D6.out).mono ?_
  rintro e w7 ⟨g2, rfl, hV7, hD7, hC7⟩
  have B7 : Hid (Below w.heap.size w w7) := B6.out.trans (hC7.below B6.out.size D5.out)
  have V7 : Hid (Sl w7 g1 (bufM xs).gotNil (bufM xs).got) := V6.out.chg (Dec.noInt D6.out) hC7
  have H7 : Hid (Ar w7 (.slice a n c) xs) := H6.out.chg (Dec.noInt D6.out) hC7
  have G7 : Hid (Ar w7 (.slice a' n' c') ys) := G6.out.chg (Dec.noInt D6.out) hC7
  have W7 : Hid (Sl w7 g2 (bufM (xs ++ ys)).gotNil (bufM (xs ++ ys)).got) := hV7
  clear hC7 V6 H6 G6 B6 D6 hV7
  go_wp2_with fail
  refine (rest_any db2 _ _ _ w7 hD7).mono ?_
  rintro e w' ⟨⟨r2, rfl, hR2⟩, hw⟩; subst w'
  go_wp2_with fail
  refine (failed_any db2 _ _ _ w7 hD7).mono ?_
  rintro e w' ⟨rfl, hw⟩; subst w'
  have R7 : Hid (Sl w7 r2 (bufM (xs ++ ys)).failed (bufM (xs ++ ys)).rest) := hR2
  clear hD7 hR2
  go_wp2_with fail
  refine (join_any a n c a' n' c' xs ys w7 H7.out G7.out HN.out).mono ?_
  rintro e w8 ⟨⟨jv, rfl, hJ8⟩, hB8⟩
  have B8 : Hid (Below w.heap.size w w8) := B7.out.trans (hB8.mono B7.out.size)
  have V8 : Hid (Sl w8 g1 (bufM xs).gotNil (bufM xs).got) := V7.out.of_below hB8
  have H8 : Hid (Ar w8 (.slice a n c) xs) := H7.out.of_below hB8
  have W8 : Hid (Sl w8 g2 (bufM (xs ++ ys)).gotNil (bufM (xs ++ ys)).got) := W7.out.of_below hB8
  have R8 : Hid (Sl w8 r2 (bufM (xs ++ ys)).failed (bufM (xs ++ ys)).rest) := R7.out.of_below hB8
  have J8 : Hid (Sl w8 jv false (xs ++ ys)) := hJ8
  clear hB8 hJ8 B7 V7 H7 W7 R7 G7
  go_wp2_with fail
  refine (bmodel_any a n c xs w8 H8.out).mono ?_
  rintro e w' ⟨rfl, q2, hw⟩; subst w'
  have BE : Hid (Below w.heap.size w (w8.drewN q2)) := B8.out.trans ((below_drewN w8 q2).mono B8.out.size)
  have JA := J8.out.ar
  obtain ⟨b5, o5, c5, rfl, hl5, hm5⟩ : ∃ b o c, jv = .slice (some ⟨b, o, none⟩) (xs ++ ys).length c ∧ (xs ++ ys).length ≤ c ∧ c ≤ maxLen := by
    rcases J8.out with ⟨h0, _⟩ | ⟨_, _, b, o, c, rfl, h1, h2, _⟩
    · cases h0
    · exact ⟨b, o, c, rfl, h1, h2⟩
  have JAH : Hid (Ar w8 (.slice (some ⟨b5, o5, none⟩) (xs ++ ys).length c5) (xs ++ ys)) := JA
  clear JA J8
  obtain ⟨ga, gn, gc, rfl, gi⟩ := W8.out.form
  obtain ⟨ra, rn, rc, rfl, ri⟩ := R8.out.form
  obtain ⟨ea, en', ec, rfl, ei⟩ := V8.out.form
  have bt : (true != true) = false := rfl
  have bf : (false != false) = false := rfl
  cases hf : (bufM xs).failed
  · obtain ⟨k1, k2, k3, k4, k5⟩ := ignores_ok xs ys hf
    have W9 : Hid (Ar w8 (.slice ga gn gc) (bufM xs).got) := (by have := W8.out.ar; rwa [k3] at this : Ar w8 (.slice ga gn gc) (bufM xs).got)
    have R9 : Hid (Ar w8 (.slice ra rn rc) ((xs ++ ys).drop (bufM xs).hi)) := (by have := R8.out.ar; rwa [k4] at this : Ar w8 (.slice ra rn rc) ((xs ++ ys).drop (bufM xs).hi))
    have V9 : Hid (Ar w8 (.slice ea en' ec) (bufM xs).got) := V8.out.ar
    rw [k1] at ri ⊢
    rw [k2] at gi
    unfold maxLen at hm5
    generalize (xs ++ ys).length = n5 at *
    generalize (bufM xs).hi = hi at *
    generalize (bufM xs).gotNil = g at *
    have hgg : (g != g) = false := by simp
    have q5 : (hi : Int) ≤ (n5 : Int) := by omega
    have q6 : (n5 : Int) ≤ (c5 : Int) := by omega
    have q7 : (hi : Int) ≤ (c5 : Int) := by omega
    have HR9 : Hid (∀ qq o' c' l', l' = n5 - hi → (hi < n5 → o' = o5 + hi) → n5 - hi ≤ c' → c' ≤ maxLen → Calls Try.prog 14 #[.slice ra rn rc, .slice (some ⟨b5, o', none⟩) l' c'] (w8.drewN qq) fun e w' => e = .returned (.bool true) ∧ ∃ q', w' = (w8.drewN qq).drewN q') :=
      (fun qq o' c' l' e0 e1 e2 e3 => e0 ▸ equal_same _ _ ((xs ++ ys).drop hi) (w8.drewN qq) R9.out (Ar.rest JAH.out hi o' c' (by omega) e1 e2 e3) : ∀ qq o' c' l', l' = n5 - hi → (hi < n5 → o' = o5 + hi) → n5 - hi ≤ c' → c' ≤ maxLen → Calls Try.prog 14 #[.slice ra rn rc, .slice (some ⟨b5, o', none⟩) l' c'] (w8.drewN qq) fun e w' => e = .returned (.bool true) ∧ ∃ q', w' = (w8.drewN qq).drewN q')
    clear k1 k2 k3 k4 W8 R8 V8 hf H8 B8
    by_cases hck : c5 = hi
    · subst hck
      go_wp2_with fail
      refine (equal_same _ _ (bufM xs).got (w8.drewN q2) W9.out V9.out).mono ?_
      rintro e w' ⟨rfl, q', hw⟩; subst w'
      go_wp2_with fail
      refine (HR9.out _ _ _ _ (by omega) (by omega) (by omega) (by unfold maxLen; omega)).mono ?_
      rintro e w' ⟨rfl, q'', hw⟩; subst w'
      go_wp2
      go_ret
      exact ⟨rfl, ⟨BE.out.os, BE.out.tape, BE.out.output, BE.out.size, BE.out.block⟩⟩
    · go_wp2_with fail
      refine (equal_same _ _ (bufM xs).got (w8.drewN q2) W9.out V9.out).mono ?_
      rintro e w' ⟨rfl, q', hw⟩; subst w'
      go_wp2_with fail
      refine (HR9.out _ _ _ _ (by omega) (by omega) (by omega) (by unfold maxLen; omega)).mono ?_
      rintro e w' ⟨rfl, q'', hw⟩; subst w'
      go_wp2
      go_ret
      exact ⟨rfl, ⟨BE.out.os, BE.out.tape, BE.out.output, BE.out.size, BE.out.block⟩⟩
  · have hBM : Hid (∀ qq, Calls Try.prog 12 #[.slice (some ⟨b5, o5, none⟩) (xs ++ ys).length c5, .slice ga gn gc, .slice ra rn rc, .bool (bufM (xs ++ ys)).failed] (w8.drewN qq) fun e w' => e = .returned (.bool true) ∧ ∃ q, w' = (w8.drewN qq).drewN q) :=
      (fun qq => bmatches _ _ c5 (xs ++ ys) _ _ (w8.drewN qq) JAH.out W8.out R8.out : ∀ qq, Calls Try.prog 12 #[.slice (some ⟨b5, o5, none⟩) (xs ++ ys).length c5, .slice ga gn gc, .slice ra rn rc, .bool (bufM (xs ++ ys)).failed] (w8.drewN qq) fun e w' => e = .returned (.bool true) ∧ ∃ q, w' = (w8.drewN qq).drewN q)
    by_cases h4 : 4 ≤ n
    · have hbe := (Ar.drewN H8.out q2).be32 h4
      have h4z : (4 : Int) ≤ (n : Int) := by omega
      by_cases hneg : be xs < -1
      · have hd := ignores_neg xs ys (by have := HL.out; omega) hneg
        rw [hd] at ri gi ⊢
        have ri' : ra.isNone = true := ri
        have gi' : ga.isNone = true := gi
        have hdf : BR.dead.failed = true := rfl
        rw [hdf]
        generalize be xs = z at *
        clear hd W8 R8 V8 hf H8 B8 hBM ri gi JAH
        go_wp2_with fail
        refine hbe.mono ?_
        rintro e w' ⟨rfl, q', hw⟩; subst w'
        go_wp2
        go_ret
        exact ⟨rfl, ⟨BE.out.os, BE.out.tape, BE.out.output, BE.out.size, BE.out.block⟩⟩
      · generalize be xs = z at *
        generalize (bufM (xs ++ ys)).failed = f2 at *
        generalize (xs ++ ys).length = n5 at *
        clear W8 R8 V8 hf H8 B8 ri gi JAH
        go_wp2_with fail
        refine hbe.mono ?_
        rintro e w' ⟨rfl, q', hw⟩; subst w'
        go_wp2_with fail
        refine (hBM.out _).mono ?_
        rintro e w' ⟨rfl, q'', hw⟩; subst w'
        go_wp2
        go_ret
        exact ⟨rfl, ⟨BE.out.os, BE.out.tape, BE.out.output, BE.out.size, BE.out.block⟩⟩
    · have h4z : ¬ (4 : Int) ≤ (n : Int) := by omega
      generalize (bufM (xs ++ ys)).failed = f2 at *
      generalize (xs ++ ys).length = n5 at *
      clear W8 R8 V8 hf H8 B8 ri gi JAH
      go_wp2_with fail
      refine (hBM.out _).mono ?_
      rintro e w' ⟨rfl, q'', hw⟩; subst w'
      go_wp2
      go_ret
      exact ⟨rfl, ⟨BE.out.os, BE.out.tape, BE.out.output, BE.out.size, BE.out.block⟩⟩

end Go.Proofs.Qxb6614386a
