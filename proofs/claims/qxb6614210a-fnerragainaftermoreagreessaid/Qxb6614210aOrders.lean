/-
  THE WALK OF FnErrOrdersByLineStably.
-/
import Derived.Test.Qxb6614210aErr
import Derived.Deep.RegionHeld3
import Derived.Deep.QuietTactic
import Derived.BigQuiet
namespace Go.Proofs.Qxb6614210a
open Go.RowKit Stab

/-- Cells of a slice that came in: numbers. -/
structure IntsIn (w : World) (a : Option Addr) (len : Nat) (zs : Nat → Int) : Prop where
  small : len ≤ maxLen
  cells : 0 < len → ∃ b off, a = some ⟨b, off, none⟩ ∧ b < w.heap.size ∧ ∀ i, i < len → w.cell? ⟨b, off + i, none⟩ = some (.int .i64 (zs i))
structure StrsIn (w : World) (a : Option Addr) (len : Nat) (ss : List ByteArray) : Prop where
  leq : len = ss.length
  small : len ≤ maxLen
  each : ∀ s ∈ ss, s.size ≤ maxLen
  cells : 0 < len → ∃ b off, a = some ⟨b, off, none⟩ ∧ b < w.heap.size ∧ ∀ i, i < len → w.cell? ⟨b, off + i, none⟩ = some (.string (ss.getD i ByteArray.empty))
theorem StrsIn.toCells {w : World} {a : Option Addr} {len : Nat} {ss : List ByteArray} (h : StrsIn w a len ss) : StrCells w a len ss :=
  ⟨h.leq, h.small, h.each, fun hl => by obtain ⟨b, off, rfl, _, hc⟩ := h.cells hl; exact ⟨b, off, rfl, hc⟩⟩

theorem FileIs.drew {w : World} {fb : Nat} {v : Value} {ps : List Pr} (h : FileIs w fb v ps) : FileIs w.drew fb v ps := ⟨h.lt, h.cell, h.frz, h.own⟩
theorem Aside.step {w2 wr : World} (h : Aside (∃ q, wr = w2.drewN q)) (n : Nat) : Aside (∃ q, wr.drewN n = w2.drewN q) := by
  obtain ⟨q, rfl⟩ := h.out
  exact (show Aside _ from ⟨q + n, World.drewN_drewN _ _ _⟩)
theorem seg_snoc {α : Type} (f : Nat → α) (i : Nat) : seg f 0 (i + 1) = seg f 0 i ++ [f i] := by rw [seg_append f (Nat.zero_le i) (Nat.le_succ i), seg_one]

set_option maxHeartbeats 4000000 in
set_option maxRecDepth 1000000 in
theorem orders_any (a0 : Option Addr) (l0 c0 : Nat) (zs : Nat → Int) (a1 : Option Addr) (l1 c1 : Nat) (ss : List ByteArray) (w : World) (h0 : IntsIn w a0 l0 zs) (h1 : StrsIn w a1 l1 ss) :
    Calls Try.prog 3 #[.slice a0 l0 c0, .slice a1 l1 c1] w fun e w' => e = .returned (.bool true) ∧ Below w.heap.size w w' := by
  have hb1 := bytes1_any a0 l0 c0 a1 l1 c1 ss w h0.small h1.toCells
  have hsp := spend_any 1048576 a0 l0 c0 a1 l1 c1 ss w h1.toCells
  obtain ⟨n, hn, hnz⟩ : ∃ n : Nat, (n ≤ l0 ∧ n ≤ l1) ∧ (if (l0 : Int) < (l1 : Int) then (l0 : Int) else (l1 : Int)) = (n : Int) := ⟨min l0 l1, by omega, by split <;> omega⟩
  have hmin := min_any (l0 : Int) (l1 : Int) w
  rw [hnz] at hmin
  have hnew := newFile_any w
  obtain ⟨hn0, hn1⟩ := hn
  have H0 : Aside _ := h0
  have H1 : Aside _ := h1
  clear h0 h1 hnz
  by_cases hc0 : (4096 : Int) < (l0 : Int)
  · go_enter Try.func3, Try.ntmps3
    go_wp2_with fail
    refine hb1.mono ?_
    rintro e w' ⟨⟨bv, rfl⟩, hw⟩; subst w'
    cases bv
    · go_wp2
      go_ret
      exact ⟨rfl, Below.refl _ _⟩
    · go_wp2
      go_ret
      exact ⟨rfl, Below.refl _ _⟩
  by_cases hc1 : (4096 : Int) < (l1 : Int)
  · go_enter Try.func3, Try.ntmps3
    go_wp2_with fail
    refine hb1.mono ?_
    rintro e w' ⟨⟨bv, rfl⟩, hw⟩; subst w'
    cases bv
    · go_wp2
      go_ret
      exact ⟨rfl, Below.refl _ _⟩
    · go_wp2
      go_ret
      exact ⟨rfl, Below.refl _ _⟩
  go_enter Try.func3, Try.ntmps3
  go_wp2_with fail
  refine hb1.mono ?_
  rintro e w' ⟨⟨bv, rfl⟩, hw⟩; subst w'
  cases bv
  · go_wp2
    go_ret
    exact ⟨rfl, Below.refl _ _⟩
  go_wp2_with fail
  refine hsp.mono ?_
  rintro e w' ⟨⟨sv, rfl⟩, hw⟩; subst w'
  by_cases hsv : sv < 0
  · go_wp2
    go_ret
    exact ⟨rfl, Below.refl _ _⟩
  go_wp2_with fail
  refine hmin.mono ?_
  rintro e w' ⟨rfl, hw⟩; subst w'
  go_wp2_with fail
  refine hnew.mono ?_
  rintro e w1 ⟨rfl, hF, hB⟩
  clear hb1 hsp hmin hnew hsv
  have F0 : Aside _ := hF
  have B0 : Aside _ := hB
  clear hF hB
  generalize hfb : w.heap.size + 1 = fb at *
  have hfb1 : w.heap.size < fb := by omega
  have HFB : Hid _ := hfb
  clear hfb
  obtain ⟨f, hf⟩ : ∃ f : Nat → Pr, f = fun i => (zs i, ss.getD i ByteArray.empty) := ⟨_, rfl⟩
  have HFN : Hid _ := hf
  clear hf
  have hn4 : (n : Int) ≤ 4096 := by omega
  go_wp2_with fail
  go_loopg [7] n (fun kx s wr => ∃ (i : Nat) (v : Value), s = .int .i64 i ∧ i ≤ n ∧ n - i ≤ kx ∧ Aside (FileIs wr fb v (seg f 0 i)) ∧ Aside (Below w.heap.size w wr))
  case atStart => exact ⟨0, .slice none 0 0, rfl, Nat.zero_le _, Nat.le_refl _, F0, B0⟩
  case round =>
    clear F0 B0
    obtain ⟨i, v, rfl, hin, hkx, F1, B1⟩ := hrel
    by_cases hlt : i < n
    · have hltz : (i : Int) < (n : Int) := by omega
      obtain ⟨b0, o0, rfl, hb0, hcz⟩ := H0.out.cells (by omega)
      obtain ⟨b1, o1, rfl, hb1, hcs⟩ := H1.out.cells (by omega)
      have g0 : wr.cell? ⟨b0, o0 + i, none⟩ = some (.int .i64 (zs i)) := (B1.out.cell (by exact hb0)).trans (hcz i (by omega))
      have g1 : wr.cell? ⟨b1, o1 + i, none⟩ = some (.string (ss.getD i ByteArray.empty)) := (B1.out.cell (by exact hb1)).trans (hcs i (by omega))
      have q0 : (i : Int) < (l0 : Int) := by omega
      have q1 : (i : Int) < (l1 : Int) := by omega
      have hrep := zzreport_any fb v (seg f 0 i) (zs i) (ss.getD i ByteArray.empty) wr.drew F1.out.drew (by rw [seg_length]; omega)
      generalize hsi : ss.getD i ByteArray.empty = si at g1 hrep
      have SI : Hid (f i = (zs i, si)) := by rw [HFN.out, ← hsi]; exact rfl
      clear hsi
      clear hcz hcs
      go_wp2_with fail
      go_region_held3 (fun w' => w'.cell? ⟨b0, o0 + i, none⟩ = some (.int .i64 (zs i)) ∧ w'.cell? ⟨b1, o1 + i, none⟩ = some (.string si)) (go_keep) (first | (go_at_call 9; refine hrep.mono ?_; rintro e w2 ⟨rfl, v', hF, hB⟩; have k0 := (hB.cell (p := ⟨b0, o0 + i, none⟩) (Nat.lt_trans hb0 hfb1)).trans g0; have k1 := (hB.cell (p := ⟨b1, o1 + i, none⟩) (Nat.lt_trans hb1 hfb1)).trans g1))
      all_goals go_wp2
      go_roundg (n - (i + 1))
      case measure => omega
      case rel =>
        refine ⟨i + 1, v', by go_num, by omega, Nat.le_refl _, (show Aside _ from ?_), (show Aside _ from ?_)⟩
        · rw [seg_snoc, SI.out]; exact hF
        · exact B1.out.trans ((Below.refl _ wr).drew.trans (hB.mono (Nat.le_of_lt hfb1)))
    · have hltz : ¬ (i : Int) < (n : Int) := by omega
      obtain rfl : n = i := by omega
      clear hlt hkx hin
      by_cases hz : n = 0
      · subst hz
        have he := err_nil fb v wr F1.out
        have e0 : (((0 : Nat) : Int) == 0) = true := rfl
        go_wp2_with fail
        refine he.mono ?_
        rintro e w2 ⟨rfl, hw⟩; subst w2
        go_wp2
        go_ret
        exact ⟨rfl, B1.out⟩
      · have hpos : 0 < n := by omega
        have he := err_some fb v (seg f 0 n) wr F1.out (by rw [seg_length]; omega) (by rw [seg_length]; omega)
        have e0 : ((n : Int) == 0) = false := by rw [beq_eq_false_iff_ne]; omega
        go_wp2_with fail
        refine he.mono ?_
        rintro e w2 ⟨rfl, ps', hlen, hF, hQ, hS, hB⟩
        rw [seg_length, Nat.sub_zero] at hlen
        obtain ⟨g, cp, rfl⟩ : ∃ g cp, v = .slice (some ⟨g, 0, none⟩) n cp := by
          obtain ⟨g, cp, e, _⟩ := hF.at (i := 0) (by omega)
          exact ⟨g, cp, by rw [e, hlen]⟩
        have B2 : Aside (Below w.heap.size w w2) := B1.out.trans (hB.mono (Nat.le_of_lt hfb1))
        have F2 : Aside _ := hF
        have FQ : Aside _ := hQ
        have FS : Aside _ := hS
        have HLEN : Hid _ := hlen
        clear hF hQ hS hB F1 B1 he hlen
        go_wp2_with (first | (go_at_call 11; refine (errCount_any _ _ _ _).mono ?_; rintro e w3 ⟨rfl, hw⟩; subst w3))
        obtain ⟨b0, o0, rfl, hb0, hcz⟩ := H0.out.cells (by omega)
        obtain ⟨b1, o1, rfl, hb1, hcs⟩ := H1.out.cells (by omega)
        have CZ : Aside (∀ i, i < n → ∀ wr : World, (∃ q, wr = w2.drewN q) → wr.cell? ⟨b0, o0 + i, none⟩ = some (.int .i64 (zs i))) := fun i hi wr hq => by
          obtain ⟨q, rfl⟩ := hq
          exact (B2.out.cell (p := ⟨b0, o0 + i, none⟩) hb0).trans (hcz i (by omega))
        have CS : Aside (∀ i, i < n → ∀ wr : World, (∃ q, wr = w2.drewN q) → wr.cell? ⟨b1, o1 + i, none⟩ = some (.string (f i).2)) := fun i hi wr hq => by
          obtain ⟨q, rfl⟩ := hq
          rw [HFN.out]
          exact (B2.out.cell (p := ⟨b1, o1 + i, none⟩) hb1).trans (hcs i (by omega))
        clear hcz hcs
        go_loopg [9] n (fun kx s wr => ∃ (j : Nat), s = .int .i64 j ∧ j ≤ n ∧ n - j ≤ kx ∧ Aside (∃ q, wr = w2.drewN q))
        case atStart => exact ⟨0, rfl, Nat.zero_le _, Nat.le_refl _, (show Aside _ from ⟨0, rfl⟩)⟩
        case round =>
          obtain ⟨j, rfl, hjn, hkx, Q1⟩ := hrel
          by_cases hlt : j < n
          · have hltz2 : (j : Int) < (n : Int) := by omega
            have qj0 : (j : Int) < (l0 : Int) := by omega
            have qj1 : (j : Int) < (l1 : Int) := by omega
            go_wp2_with fail
            go_loopg [10, 11] n (fun kx s t wr2 => ∃ (i : Nat), s = .int .i64 (rk zs j i) ∧ t = .int .i64 i ∧ i ≤ n ∧ n - i ≤ kx ∧ Aside (∃ q, wr2 = w2.drewN q))
            case atStart => exact ⟨0, rfl, rfl, Nat.zero_le _, Nat.le_refl _, Q1⟩
            case round =>
              clear Q1
              obtain ⟨i, rfl, rfl, hin, hkx2, Q1⟩ := hrel
              have hrl := rk_le zs j i
              by_cases hlti : i < n
              · have hlti2 : (i : Int) < (n : Int) := by omega
                have qi0 : (i : Int) < (l0 : Int) := by omega
                have gi := CZ.out i hlti wr Q1.out
                have gj := CZ.out j hlt wr Q1.out
                have hrk : Hid (rk zs j (i + 1) = rk zs j i + if zs i < zs j ∨ (i < j ∧ zs i = zs j) then 1 else 0) := rfl
                by_cases hA : zs i < zs j
                · have RK : Hid (rk zs j (i + 1) = rk zs j i + 1) := by show _ = _; rw [hrk.out, if_pos (.inl hA)]
                  go_wp2_with fail
                  go_quiet (fail)
                  go_wp2
                  go_roundg (n - (i + 1))
                  case measure => omega
                  case rel => exact ⟨i + 1, by rw [RK.out]; go_num, by go_num, by omega, Nat.le_refl _, Aside.step Q1 nq⟩
                · have hA' : decide (zs i < zs j) = false := decide_eq_false hA
                  by_cases hB : i < j
                  · have hBz : (i : Int) < (j : Int) := by omega
                    by_cases hC : zs i = zs j
                    · have hC' : (zs i == zs j) = true := by simp [hC]
                      have RK : Hid (rk zs j (i + 1) = rk zs j i + 1) := by show _ = _; rw [hrk.out, if_pos (.inr ⟨hB, hC⟩)]
                      clear hC
                      go_wp2_with fail
                      go_quiet (fail)
                      go_wp2
                      go_roundg (n - (i + 1))
                      case measure => omega
                      case rel => exact ⟨i + 1, by rw [RK.out]; go_num, by go_num, by omega, Nat.le_refl _, Aside.step Q1 nq⟩
                    · have hC' : (zs i == zs j) = false := by simp [hC]
                      have RK : Hid (rk zs j (i + 1) = rk zs j i) := by show _ = _; rw [hrk.out, if_neg (by omega), Nat.add_zero]
                      clear hC
                      go_wp2_with fail
                      go_quiet (fail)
                      go_wp2
                      go_roundg (n - (i + 1))
                      case measure => omega
                      case rel => exact ⟨i + 1, by rw [RK.out], by go_num, by omega, Nat.le_refl _, Aside.step Q1 nq⟩
                  · have hBz : decide ((i : Int) < (j : Int)) = false := decide_eq_false (by omega)
                    have RK : Hid (rk zs j (i + 1) = rk zs j i) := by show _ = _; rw [hrk.out, if_neg (by omega), Nat.add_zero]
                    go_wp2_with fail
                    go_quiet (fail)
                    go_wp2
                    go_roundg (n - (i + 1))
                    case measure => omega
                    case rel => exact ⟨i + 1, by rw [RK.out], by go_num, by omega, Nat.le_refl _, Aside.step Q1 nq⟩
              · have hlti2 : ¬ (i : Int) < (n : Int) := by omega
                obtain rfl : n = i := by omega
                clear hlti hin hkx2
                have hrg : ps'[rk zs j n]? = some (f j) := by
                  have h := rk_get (key := Prod.fst) f n FQ.out FS.out j hlt
                  have e : (fun i => (f i).1) = zs := by rw [HFN.out]
                  rwa [e] at h
                have hrl2 : rk zs j n < n := by have := (List.getElem?_eq_some_iff.1 hrg).1; rwa [HLEN.out] at this
                have hgj := CZ.out j hlt wr Q1.out
                have hsj := CS.out j hlt wr Q1.out
                have hat := F2.out.at (i := rk zs j n) (by rw [HLEN.out]; exact hrl2)
                obtain ⟨g', cp', hv', hl', hm'⟩ := hat
                obtain ⟨rfl, rfl⟩ : g = g' ∧ cp = cp' := by simpa [HLEN.out] using hv'
                have hpp : ps'[rk zs j n]! = f j := by rw [List.getElem!_eq_getElem?_getD, hrg]; rfl
                rw [hpp] at hl' hm'
                have ef1 : (f j).1 = zs j := by rw [HFN.out]
                rw [ef1] at hl'
                clear hv' hpp ef1
                generalize rk zs j n = r at *
                have hl2 : ∀ m, (wr.drewN m).cell? ⟨g, r * 2, none⟩ = some (.int .i64 (zs j)) := fun m => by obtain ⟨q, rfl⟩ := Q1.out; exact hl'
                have hm2 : ∀ m, (wr.drewN m).cell? ⟨g, r * 2 + 1, none⟩ = some (.string (f j).2) := fun m => by obtain ⟨q, rfl⟩ := Q1.out; exact hm'
                have HL : Aside _ := hl2
                have HM : Aside _ := hm2
                clear hl' hm' hl2 hm2 hrg
                generalize (f j).2 = sj at *
                have cl := fun m => errLine_any g n cp r (zs j) (wr.drewN m) hrl2 (HL.out m)
                have cm := fun m => errMessage_any g n cp r sj (wr.drewN m) hrl2 (HM.out m)
                have CL : Aside _ := cl
                have CM : Aside _ := cm
                clear cl cm
                go_wp2_with fail
                go_quiet ((first | (go_at_call 12; exact Calls.quiet_of_same (CL.out _)) | (go_at_call 13; exact Calls.quiet_of_same (CM.out _))))
                go_wp2
                go_roundg (n - (j + 1))
                case measure => omega
                case rel => exact ⟨j + 1, by go_num, by omega, Nat.le_refl _, Aside.step Q1 nq⟩
          · have hltz2 : ¬ (j : Int) < (n : Int) := by omega
            go_wp2
            go_ret
            obtain ⟨q, rfl⟩ := Q1.out
            exact ⟨rfl, B2.out.trans ⟨rfl, rfl, rfl, Nat.le_refl _, fun _ _ => rfl⟩⟩
end Go.Proofs.Qxb6614210a
