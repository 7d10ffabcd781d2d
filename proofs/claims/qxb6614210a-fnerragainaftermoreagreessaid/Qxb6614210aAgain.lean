/-
  THE WALK OF FnErrAgainAfterMoreAgrees.
-/
import Derived.Test.Qxb6614210aOrders
namespace Go.Proofs.Qxb6614210a
open Go.RowKit Stab

theorem FileIs.below {w w' : World} {fb : Nat} {v : Value} {ps : List Pr} (h : FileIs w fb v ps) (hb : Below w.heap.size w w') : FileIs w' fb v ps := by
  refine ⟨Nat.lt_of_lt_of_le h.lt hb.size, (hb.cell (p := ⟨fb, 1, none⟩) h.lt).trans h.cell, (hb.frozen (p := ⟨fb, 1, none⟩) h.lt).trans h.frz, h.own.1, ?_⟩
  rcases h.own.2 with h0 | ⟨g, cap, cur, hv, hg, hh, r⟩
  · exact .inl h0
  · exact .inr ⟨g, cap, cur, hv, hg, (hb.block g (Array.getElem?_eq_some_iff.1 hh).1).trans hh, r⟩

/-- The cells of a file's problems, at the walk's own addresses. -/
theorem FileIs.row {w : World} {fb : Nat} {v : Value} {ps : List Pr} {n : Nat} (h : FileIs w fb v ps) (hl : ps.length = n) (h0 : 0 < n) :
    ∃ g cp, v = .slice (some ⟨g, 0, none⟩) n cp ∧ ∀ i, i < n → w.cell? ⟨g, i * 2, none⟩ = some (.int .i64 ps[i]!.1) ∧ w.cell? ⟨g, i * 2 + 1, none⟩ = some (.string ps[i]!.2) := by
  subst hl
  obtain ⟨g, cp, rfl, _⟩ := h.at (i := 0) h0
  refine ⟨g, cp, rfl, fun i hi => ?_⟩
  obtain ⟨g', cp', e, h1, h2⟩ := h.at hi
  obtain ⟨rfl, rfl⟩ : g = g' ∧ cp = cp' := by simpa using e
  exact ⟨h1, h2⟩

theorem sortedL_get {ps : List Pr} (h : SortedL Prod.fst ps) {i : Nat} (hi : i + 1 < ps.length) : ps[i]!.1 ≤ ps[i + 1]!.1 := by
  have := (List.pairwise_iff_getElem.1 h) i (i + 1) (by omega) hi (by omega)
  rwa [getElem!_pos ps i (by omega), getElem!_pos ps (i + 1) hi]

set_option maxHeartbeats 8000000 in
set_option maxRecDepth 1000000 in
theorem again_zz (a0 : Option Addr) (l0 c0 : Nat) (za : Nat → Int) (a1 : Option Addr) (l1 c1 : Nat) (sa : List ByteArray) (a2 : Option Addr) (l2 c2 : Nat) (zb : Nat → Int) (a3 : Option Addr) (l3 c3 : Nat) (sb : List ByteArray) (n1 n2 : Nat) (w : World) (h0 : IntsIn w a0 l0 za) (h1 : StrsIn w a1 l1 sa) (h2 : IntsIn w a2 l2 zb) (h3 : StrsIn w a3 l3 sb)
    (hn1 : n1 = min l0 l1) (hn2 : n2 = min l2 l3) (hc0 : l0 ≤ 4096) (hc1 : l1 ≤ 4096) (hc2 : l2 ≤ 4096) (hc3 : l3 ≤ 4096) (hz1 : n1 = 0) (hz2 : n1 + n2 = 0) :
    Calls Try.prog 4 #[.slice a0 l0 c0, .slice a1 l1 c1, .slice a2 l2 c2, .slice a3 l3 c3] w fun e w' => e = .returned (.bool true) ∧ Below w.heap.size w w' := by
  have hb2 := bytes2_any a0 l0 c0 a1 l1 c1 sa a2 l2 c2 a3 l3 c3 sb w h0.small h1.toCells h3.toCells
  have hsp1 := spend_any 1048576 a0 l0 c0 a1 l1 c1 sa w h1.toCells
  have hsp2 := fun x => spend_any x a2 l2 c2 a3 l3 c3 sb w h3.toCells
  have hmin1 := min_any (l0 : Int) (l1 : Int) w
  have hmin2 := min_any (l2 : Int) (l3 : Int) w
  rw [show (if (l0 : Int) < (l1 : Int) then (l0 : Int) else (l1 : Int)) = (n1 : Int) by split <;> omega] at hmin1
  rw [show (if (l2 : Int) < (l3 : Int) then (l2 : Int) else (l3 : Int)) = (n2 : Int) by split <;> omega] at hmin2
  have hnew := newFile_any w
  have hn10 : n1 ≤ l0 := by omega
  have hn11 : n1 ≤ l1 := by omega
  have hn20 : n2 ≤ l2 := by omega
  have hn21 : n2 ≤ l3 := by omega
  have H0 : Aside _ := h0
  have H1 : Aside _ := h1
  have H2 : Aside _ := h2
  have H3 : Aside _ := h3
  have HZ1 : Hid _ := hz1
  have HZ2 : Hid _ := hz2
  clear h0 h1 h2 h3 hn1 hn2 hz1 hz2
  have z0 : ¬ (4096 : Int) < (l0 : Int) := by omega
  have z1 : ¬ (4096 : Int) < (l1 : Int) := by omega
  have z2 : ¬ (4096 : Int) < (l2 : Int) := by omega
  have z3 : ¬ (4096 : Int) < (l3 : Int) := by omega
  obtain ⟨fa, hfa⟩ : ∃ f : Nat → Pr, f = fun i => (za i, sa.getD i ByteArray.empty) := ⟨_, rfl⟩
  obtain ⟨fc, hfc⟩ : ∃ f : Nat → Pr, f = fun i => (zb i, sb.getD i ByteArray.empty) := ⟨_, rfl⟩
  have HFN_fa : Hid _ := hfa
  have HFN_fc : Hid _ := hfc
  clear hfa hfc
  go_enter Try.func4, Try.ntmps4
  go_wp2_with fail
  refine hb2.mono ?_
  rintro e w' ⟨⟨bv, rfl⟩, hw⟩; subst w'
  cases bv
  · go_wp2
    go_ret
    exact ⟨rfl, Below.refl _ _⟩
  go_wp2_with fail
  refine hsp1.mono ?_
  rintro e w' ⟨⟨sv, rfl⟩, hw⟩; subst w'
  by_cases hsv : sv < 0
  · go_wp2
    go_ret
    exact ⟨rfl, Below.refl _ _⟩
  go_wp2_with fail
  refine (hsp2 sv).mono ?_
  rintro e w' ⟨⟨sv2, rfl⟩, hw⟩; subst w'
  by_cases hsv2 : sv2 < 0
  · go_wp2
    go_ret
    exact ⟨rfl, Below.refl _ _⟩
  go_wp2_with fail
  refine hmin1.mono ?_
  rintro e w' ⟨rfl, hw⟩; subst w'
  go_wp2_with fail
  refine hmin2.mono ?_
  rintro e w' ⟨rfl, hw⟩; subst w'
  go_wp2_with fail
  refine hnew.mono ?_
  rintro e w1 ⟨rfl, hF, hB⟩
  have F0 : Aside (FileIs w1 (w.heap.size + 1) (.slice none 0 0) []) := hF
  have B0 : Aside (Below w.heap.size w w1) := hB
  clear hF hB hb2 hsp1 hsp2 hmin1 hmin2 hnew hsv hsv2
  generalize hfb : w.heap.size + 1 = fb at *
  have hfblefb : w.heap.size ≤ fb := by omega
  have hbasefb : w.heap.size ≤ fb := by omega
  have HFB : Hid _ := hfb
  clear hfb
  go_wp2_with fail
  go_loopg [13] n1 (fun kx s wr => ∃ (iX : Nat) (v : Value), s = .int .i64 iX ∧ iX ≤ n1 ∧ n1 - iX ≤ kx ∧ Aside (FileIs wr fb v (seg fa 0 iX)) ∧ Aside (Below w.heap.size w wr))
  case atStart => exact ⟨0, .slice none 0 0, rfl, Nat.zero_le _, Nat.le_refl _, F0, B0⟩
  case round =>
    clear F0 B0
    obtain ⟨iX, vX, rfl, hinX, hkxX, FX, BX⟩ := hrel
    by_cases hltX : iX < n1
    · have hltzX : (iX : Int) < (n1 : Int) := by omega
      have BA : Aside (Below w.heap.size w wr) := BX.out
      obtain ⟨b0, o0, rfl, hb0, hcz⟩ := H0.out.cells (by omega)
      obtain ⟨b1, o1, rfl, hb1, hcs⟩ := H1.out.cells (by omega)
      have g0 : wr.cell? ⟨b0, o0 + iX, none⟩ = some (.int .i64 (za iX)) := (BA.out.cell (by exact hb0)).trans (hcz iX (by omega))
      have g1 : wr.cell? ⟨b1, o1 + iX, none⟩ = some (.string (sa.getD iX ByteArray.empty)) := (BA.out.cell (by exact hb1)).trans (hcs iX (by omega))
      have q0 : (iX : Int) < (l0 : Int) := by omega
      have q1 : (iX : Int) < (l1 : Int) := by omega
      have hrep := zzreport_any fb vX (seg fa 0 iX) (za iX) (sa.getD iX ByteArray.empty) wr.drew FX.out.drew (by rw [seg_length]; omega)
      generalize hsi : sa.getD iX ByteArray.empty = si at g1 hrep
      have SI : Hid (fa iX = (za iX, si)) := by rw [HFN_fa.out, ← hsi]; exact rfl
      clear hsi
      clear hcz hcs BA
      go_wp2_with fail
      go_region_held3 (fun w' => w'.cell? ⟨b0, o0 + iX, none⟩ = some (.int .i64 (za iX)) ∧ w'.cell? ⟨b1, o1 + iX, none⟩ = some (.string si)) (go_keep) (first | (go_at_call 9; refine hrep.mono ?_; rintro e w2 ⟨rfl, v', hF, hB⟩; have k0 := (hB.cell (p := ⟨b0, o0 + iX, none⟩) (Nat.lt_of_lt_of_le hb0 hfblefb)).trans g0; have k1 := (hB.cell (p := ⟨b1, o1 + iX, none⟩) (Nat.lt_of_lt_of_le hb1 hfblefb)).trans g1))
      all_goals go_wp2
      go_roundg (n1 - (iX + 1))
      case measure => omega
      case rel =>
        refine ⟨iX + 1, v', by go_num, by omega, Nat.le_refl _, (show Aside _ from ?_), (show Aside _ from ?_)⟩
        · rw [seg_snoc, SI.out]; exact hF
        · exact BX.out.trans ((Below.refl _ wr).drew.trans (hB.mono hbasefb))
    · have hltzX : ¬ (iX : Int) < (n1 : Int) := by omega
      obtain rfl : n1 = iX := by omega
      clear hltX hkxX hinX
      have hpz1z : decide (0 < n1) = false := decide_eq_false (by have := HZ1.out; omega)
      have heA := err_nil fb vX wr (by have := FX.out; rwa [show seg fa 0 n1 = [] by rw [HZ1.out]; exact seg_nil _ (Nat.le_refl _)] at this)
      go_wp2_with fail
      refine heA.mono ?_
      rintro e wA ⟨rfl, hw⟩; subst wA
      clear heA
      have FAs : Aside (FileIs wr fb vX []) := by have := FX.out; rwa [show seg fa 0 n1 = [] by rw [HZ1.out]; exact seg_nil _ (Nat.le_refl _)] at this
      have BAs : Aside (Below w.heap.size w wr) := BX
      have QAs : Aside (Feq Prod.fst (seg fa 0 n1) []) := by rw [show seg fa 0 n1 = [] by rw [HZ1.out]; exact seg_nil _ (Nat.le_refl _)]; exact Feq.refl _
      have HPL : Hid (([] : List Pr).length ≤ 4096) := (by show _ ≤ _; simp)
      clear FX BX
      go_wp2_with fail
      go_loopg [16] n2 (fun kx s wr => ∃ (iY : Nat) (v : Value), s = .int .i64 iY ∧ iY ≤ n2 ∧ n2 - iY ≤ kx ∧ Aside (FileIs wr fb v ([] ++ seg fc 0 iY)) ∧ Aside (Below w.heap.size w wr))
      case atStart => exact ⟨0, vX, rfl, Nat.zero_le _, Nat.le_refl _, (by have := FAs.out; exact this), BAs⟩
      case round =>
        clear FAs BAs
        obtain ⟨iY, vY, rfl, hinY, hkxY, FY, BY⟩ := hrel
        by_cases hltY : iY < n2
        · have hltzY : (iY : Int) < (n2 : Int) := by omega
          have BA : Aside (Below w.heap.size w wr) := BY.out
          obtain ⟨b0, o0, rfl, hb0, hcz⟩ := H2.out.cells (by omega)
          obtain ⟨b1, o1, rfl, hb1, hcs⟩ := H3.out.cells (by omega)
          have g0 : wr.cell? ⟨b0, o0 + iY, none⟩ = some (.int .i64 (zb iY)) := (BA.out.cell (by exact hb0)).trans (hcz iY (by omega))
          have g1 : wr.cell? ⟨b1, o1 + iY, none⟩ = some (.string (sb.getD iY ByteArray.empty)) := (BA.out.cell (by exact hb1)).trans (hcs iY (by omega))
          have q0 : (iY : Int) < (l2 : Int) := by omega
          have q1 : (iY : Int) < (l3 : Int) := by omega
          have hrep := zzreport_any fb vY ([] ++ seg fc 0 iY) (zb iY) (sb.getD iY ByteArray.empty) wr.drew FY.out.drew (by have := HPL.out; simp only [List.length_append, seg_length] at this ⊢; omega)
          generalize hsi : sb.getD iY ByteArray.empty = si at g1 hrep
          have SI : Hid (fc iY = (zb iY, si)) := by rw [HFN_fc.out, ← hsi]; exact rfl
          clear hsi
          clear hcz hcs BA
          go_wp2_with fail
          go_region_held3 (fun w' => w'.cell? ⟨b0, o0 + iY, none⟩ = some (.int .i64 (zb iY)) ∧ w'.cell? ⟨b1, o1 + iY, none⟩ = some (.string si)) (go_keep) (first | (go_at_call 9; refine hrep.mono ?_; rintro e w2 ⟨rfl, v', hF, hB⟩; have k0 := (hB.cell (p := ⟨b0, o0 + iY, none⟩) (Nat.lt_of_lt_of_le hb0 hfblefb)).trans g0; have k1 := (hB.cell (p := ⟨b1, o1 + iY, none⟩) (Nat.lt_of_lt_of_le hb1 hfblefb)).trans g1))
          all_goals go_wp2
          go_roundg (n2 - (iY + 1))
          case measure => omega
          case rel =>
            refine ⟨iY + 1, v', by go_num, by omega, Nat.le_refl _, (show Aside _ from ?_), (show Aside _ from ?_)⟩
            · rw [seg_snoc, ← List.append_assoc, SI.out]; exact hF
            · exact BY.out.trans ((Below.refl _ wr).drew.trans (hB.mono hbasefb))
        · have hltzY : ¬ (iY : Int) < (n2 : Int) := by omega
          obtain rfl : n2 = iY := by omega
          clear hltY hkxY hinY
          have hn20z : n2 = 0 := by have := HZ2.out; omega
          have HN2 : Hid (n2 = 0) := hn20z
          clear hn20z
          have heB := err_nil fb vY wr (by have := FY.out; rwa [show ([] : List Pr) ++ seg fc 0 n2 = [] by rw [HN2.out]; exact seg_nil _ (Nat.le_refl _)] at this)
          go_wp2_with fail
          refine heB.mono ?_
          rintro e wB ⟨rfl, hw⟩; subst wB
          clear heB
          have B2s : Aside (Below w.heap.size w wr) := BY
          clear FY BY
          have hnew2 := newFile_any wr
          go_wp2_with fail
          refine hnew2.mono ?_
          rintro e w4 ⟨rfl, hF, hB⟩
          have F40 : Aside (FileIs w4 (wr.heap.size + 1) (.slice none 0 0) []) := hF
          have B40 : Aside (Below wr.heap.size wr w4) := hB
          clear hF hB hnew2
          obtain ⟨wC, hwC⟩ : ∃ wC, wC = wr := ⟨_, rfl⟩
          rw [← hwC] at F40 B40
          generalize hfb2 : wr.heap.size + 1 = fz
          have hfz : wC.heap.size + 1 = fz := by rw [hwC]; exact hfb2
          rw [hfz] at F40
          have hszC : w.heap.size ≤ wC.heap.size := by rw [hwC]; exact B2s.out.size
          have hfblefz : w.heap.size ≤ fz := by omega
          have hbasefz : wC.heap.size ≤ fz := by omega
          have BWC : Aside (Below w.heap.size w wC) := by rw [hwC]; exact B2s.out
          have HWC : Hid (wC = wr) := hwC
          clear hwC hfb2 hfz
          go_wp2_with fail
          go_loopg [19] n1 (fun kx s wr => ∃ (iD : Nat) (v : Value), s = .int .i64 iD ∧ iD ≤ n1 ∧ n1 - iD ≤ kx ∧ Aside (FileIs wr fz v (seg fa 0 iD)) ∧ Aside (Below wC.heap.size wC wr))
          case atStart => exact ⟨0, .slice none 0 0, rfl, Nat.zero_le _, Nat.le_refl _, F40, B40⟩
          case round =>
            clear F40 B40
            obtain ⟨iD, vD, rfl, hinD, hkxD, FD, BD⟩ := hrel
            by_cases hltD : iD < n1
            · have hltzD : (iD : Int) < (n1 : Int) := by omega
              have BA : Aside (Below w.heap.size w wr) := BWC.out.trans (BD.out.mono hszC)
              obtain ⟨b0, o0, rfl, hb0, hcz⟩ := H0.out.cells (by omega)
              obtain ⟨b1, o1, rfl, hb1, hcs⟩ := H1.out.cells (by omega)
              have g0 : wr.cell? ⟨b0, o0 + iD, none⟩ = some (.int .i64 (za iD)) := (BA.out.cell (by exact hb0)).trans (hcz iD (by omega))
              have g1 : wr.cell? ⟨b1, o1 + iD, none⟩ = some (.string (sa.getD iD ByteArray.empty)) := (BA.out.cell (by exact hb1)).trans (hcs iD (by omega))
              have q0 : (iD : Int) < (l0 : Int) := by omega
              have q1 : (iD : Int) < (l1 : Int) := by omega
              have hrep := zzreport_any fz vD (seg fa 0 iD) (za iD) (sa.getD iD ByteArray.empty) wr.drew FD.out.drew (by rw [seg_length]; omega)
              generalize hsi : sa.getD iD ByteArray.empty = si at g1 hrep
              have SI : Hid (fa iD = (za iD, si)) := by rw [HFN_fa.out, ← hsi]; exact rfl
              clear hsi
              clear hcz hcs BA
              go_wp2_with fail
              go_region_held3 (fun w' => w'.cell? ⟨b0, o0 + iD, none⟩ = some (.int .i64 (za iD)) ∧ w'.cell? ⟨b1, o1 + iD, none⟩ = some (.string si)) (go_keep) (first | (go_at_call 9; refine hrep.mono ?_; rintro e w2 ⟨rfl, v', hF, hB⟩; have k0 := (hB.cell (p := ⟨b0, o0 + iD, none⟩) (Nat.lt_of_lt_of_le hb0 hfblefz)).trans g0; have k1 := (hB.cell (p := ⟨b1, o1 + iD, none⟩) (Nat.lt_of_lt_of_le hb1 hfblefz)).trans g1))
              all_goals go_wp2
              go_roundg (n1 - (iD + 1))
              case measure => omega
              case rel =>
                refine ⟨iD + 1, v', by go_num, by omega, Nat.le_refl _, (show Aside _ from ?_), (show Aside _ from ?_)⟩
                · rw [seg_snoc, SI.out]; exact hF
                · exact BD.out.trans ((Below.refl _ wr).drew.trans (hB.mono hbasefz))
            · have hltzD : ¬ (iD : Int) < (n1 : Int) := by omega
              obtain rfl : n1 = iD := by omega
              clear hltD hkxD hinD
              have HPL2 : Hid ((seg fa 0 n1).length ≤ 4096) := (by show _ ≤ _; rw [seg_length]; omega)
              go_wp2_with fail
              go_loopg [20] n2 (fun kx s wr => ∃ (iG : Nat) (v : Value), s = .int .i64 iG ∧ iG ≤ n2 ∧ n2 - iG ≤ kx ∧ Aside (FileIs wr fz v (seg fa 0 n1 ++ seg fc 0 iG)) ∧ Aside (Below wC.heap.size wC wr))
              case atStart => exact ⟨0, vD, rfl, Nat.zero_le _, Nat.le_refl _, (by have := FD.out; rwa [← List.append_nil (seg fa 0 n1)] at this), BD⟩
              case round =>
                clear FD BD
                obtain ⟨iG, vG, rfl, hinG, hkxG, FG, BG⟩ := hrel
                by_cases hltG : iG < n2
                · have hltzG : (iG : Int) < (n2 : Int) := by omega
                  have BA : Aside (Below w.heap.size w wr) := BWC.out.trans (BG.out.mono hszC)
                  obtain ⟨b0, o0, rfl, hb0, hcz⟩ := H2.out.cells (by omega)
                  obtain ⟨b1, o1, rfl, hb1, hcs⟩ := H3.out.cells (by omega)
                  have g0 : wr.cell? ⟨b0, o0 + iG, none⟩ = some (.int .i64 (zb iG)) := (BA.out.cell (by exact hb0)).trans (hcz iG (by omega))
                  have g1 : wr.cell? ⟨b1, o1 + iG, none⟩ = some (.string (sb.getD iG ByteArray.empty)) := (BA.out.cell (by exact hb1)).trans (hcs iG (by omega))
                  have q0 : (iG : Int) < (l2 : Int) := by omega
                  have q1 : (iG : Int) < (l3 : Int) := by omega
                  have hrep := zzreport_any fz vG (seg fa 0 n1 ++ seg fc 0 iG) (zb iG) (sb.getD iG ByteArray.empty) wr.drew FG.out.drew (by have := HPL2.out; simp only [List.length_append, seg_length] at this ⊢; omega)
                  generalize hsi : sb.getD iG ByteArray.empty = si at g1 hrep
                  have SI : Hid (fc iG = (zb iG, si)) := by rw [HFN_fc.out, ← hsi]; exact rfl
                  clear hsi
                  clear hcz hcs BA
                  go_wp2_with fail
                  go_region_held3 (fun w' => w'.cell? ⟨b0, o0 + iG, none⟩ = some (.int .i64 (zb iG)) ∧ w'.cell? ⟨b1, o1 + iG, none⟩ = some (.string si)) (go_keep) (first | (go_at_call 9; refine hrep.mono ?_; rintro e w2 ⟨rfl, v', hF, hB⟩; have k0 := (hB.cell (p := ⟨b0, o0 + iG, none⟩) (Nat.lt_of_lt_of_le hb0 hfblefz)).trans g0; have k1 := (hB.cell (p := ⟨b1, o1 + iG, none⟩) (Nat.lt_of_lt_of_le hb1 hfblefz)).trans g1))
                  all_goals go_wp2
                  go_roundg (n2 - (iG + 1))
                  case measure => omega
                  case rel =>
                    refine ⟨iG + 1, v', by go_num, by omega, Nat.le_refl _, (show Aside _ from ?_), (show Aside _ from ?_)⟩
                    · rw [seg_snoc, ← List.append_assoc, SI.out]; exact hF
                    · exact BG.out.trans ((Below.refl _ wr).drew.trans (hB.mono hbasefz))
                · have hltzG : ¬ (iG : Int) < (n2 : Int) := by omega
                  obtain rfl : n2 = iG := by omega
                  clear hltG hkxG hinG
                  have htt : ((n1 : Int) + (n2 : Int) == 0) = true := by rw [beq_iff_eq]; have := HZ2.out; omega
                  have htt2 : ¬ (0 : Int) < (n1 : Int) + (n2 : Int) := by have := HZ2.out; omega
                  have heE := err_nil fz vG wr (by have := FG.out; rwa [show seg fa 0 n1 ++ seg fc 0 n2 = [] by rw [show n1 = 0 by have := HZ2.out; omega, HN2.out]; exact rfl] at this)
                  go_wp2_with fail
                  refine heE.mono ?_
                  rintro e wE ⟨rfl, hw⟩; subst wE
                  clear heE
                  go_wp2
                  go_ret
                  exact ⟨rfl, BWC.out.trans (BG.out.mono hszC)⟩

set_option maxHeartbeats 8000000 in
set_option maxRecDepth 1000000 in
theorem again_zp (a0 : Option Addr) (l0 c0 : Nat) (za : Nat → Int) (a1 : Option Addr) (l1 c1 : Nat) (sa : List ByteArray) (a2 : Option Addr) (l2 c2 : Nat) (zb : Nat → Int) (a3 : Option Addr) (l3 c3 : Nat) (sb : List ByteArray) (n1 n2 : Nat) (w : World) (h0 : IntsIn w a0 l0 za) (h1 : StrsIn w a1 l1 sa) (h2 : IntsIn w a2 l2 zb) (h3 : StrsIn w a3 l3 sb)
    (hn1 : n1 = min l0 l1) (hn2 : n2 = min l2 l3) (hc0 : l0 ≤ 4096) (hc1 : l1 ≤ 4096) (hc2 : l2 ≤ 4096) (hc3 : l3 ≤ 4096) (hz1 : n1 = 0) (hz2 : 0 < n1 + n2) :
    Calls Try.prog 4 #[.slice a0 l0 c0, .slice a1 l1 c1, .slice a2 l2 c2, .slice a3 l3 c3] w fun e w' => e = .returned (.bool true) ∧ Below w.heap.size w w' := by
  have hb2 := bytes2_any a0 l0 c0 a1 l1 c1 sa a2 l2 c2 a3 l3 c3 sb w h0.small h1.toCells h3.toCells
  have hsp1 := spend_any 1048576 a0 l0 c0 a1 l1 c1 sa w h1.toCells
  have hsp2 := fun x => spend_any x a2 l2 c2 a3 l3 c3 sb w h3.toCells
  have hmin1 := min_any (l0 : Int) (l1 : Int) w
  have hmin2 := min_any (l2 : Int) (l3 : Int) w
  rw [show (if (l0 : Int) < (l1 : Int) then (l0 : Int) else (l1 : Int)) = (n1 : Int) by split <;> omega] at hmin1
  rw [show (if (l2 : Int) < (l3 : Int) then (l2 : Int) else (l3 : Int)) = (n2 : Int) by split <;> omega] at hmin2
  have hnew := newFile_any w
  have hn10 : n1 ≤ l0 := by omega
  have hn11 : n1 ≤ l1 := by omega
  have hn20 : n2 ≤ l2 := by omega
  have hn21 : n2 ≤ l3 := by omega
  have H0 : Aside _ := h0
  have H1 : Aside _ := h1
  have H2 : Aside _ := h2
  have H3 : Aside _ := h3
  have HZ1 : Hid _ := hz1
  have HZ2 : Hid _ := hz2
  clear h0 h1 h2 h3 hn1 hn2 hz1 hz2
  have z0 : ¬ (4096 : Int) < (l0 : Int) := by omega
  have z1 : ¬ (4096 : Int) < (l1 : Int) := by omega
  have z2 : ¬ (4096 : Int) < (l2 : Int) := by omega
  have z3 : ¬ (4096 : Int) < (l3 : Int) := by omega
  obtain ⟨fa, hfa⟩ : ∃ f : Nat → Pr, f = fun i => (za i, sa.getD i ByteArray.empty) := ⟨_, rfl⟩
  obtain ⟨fc, hfc⟩ : ∃ f : Nat → Pr, f = fun i => (zb i, sb.getD i ByteArray.empty) := ⟨_, rfl⟩
  have HFN_fa : Hid _ := hfa
  have HFN_fc : Hid _ := hfc
  clear hfa hfc
  go_enter Try.func4, Try.ntmps4
  go_wp2_with fail
  refine hb2.mono ?_
  rintro e w' ⟨⟨bv, rfl⟩, hw⟩; subst w'
  cases bv
  · go_wp2
    go_ret
    exact ⟨rfl, Below.refl _ _⟩
  go_wp2_with fail
  refine hsp1.mono ?_
  rintro e w' ⟨⟨sv, rfl⟩, hw⟩; subst w'
  by_cases hsv : sv < 0
  · go_wp2
    go_ret
    exact ⟨rfl, Below.refl _ _⟩
  go_wp2_with fail
  refine (hsp2 sv).mono ?_
  rintro e w' ⟨⟨sv2, rfl⟩, hw⟩; subst w'
  by_cases hsv2 : sv2 < 0
  · go_wp2
    go_ret
    exact ⟨rfl, Below.refl _ _⟩
  go_wp2_with fail
  refine hmin1.mono ?_
  rintro e w' ⟨rfl, hw⟩; subst w'
  go_wp2_with fail
  refine hmin2.mono ?_
  rintro e w' ⟨rfl, hw⟩; subst w'
  go_wp2_with fail
  refine hnew.mono ?_
  rintro e w1 ⟨rfl, hF, hB⟩
  have F0 : Aside (FileIs w1 (w.heap.size + 1) (.slice none 0 0) []) := hF
  have B0 : Aside (Below w.heap.size w w1) := hB
  clear hF hB hb2 hsp1 hsp2 hmin1 hmin2 hnew hsv hsv2
  generalize hfb : w.heap.size + 1 = fb at *
  have hfblefb : w.heap.size ≤ fb := by omega
  have hbasefb : w.heap.size ≤ fb := by omega
  have HFB : Hid _ := hfb
  clear hfb
  go_wp2_with fail
  go_loopg [13] n1 (fun kx s wr => ∃ (iX : Nat) (v : Value), s = .int .i64 iX ∧ iX ≤ n1 ∧ n1 - iX ≤ kx ∧ Aside (FileIs wr fb v (seg fa 0 iX)) ∧ Aside (Below w.heap.size w wr))
  case atStart => exact ⟨0, .slice none 0 0, rfl, Nat.zero_le _, Nat.le_refl _, F0, B0⟩
  case round =>
    clear F0 B0
    obtain ⟨iX, vX, rfl, hinX, hkxX, FX, BX⟩ := hrel
    by_cases hltX : iX < n1
    · have hltzX : (iX : Int) < (n1 : Int) := by omega
      have BA : Aside (Below w.heap.size w wr) := BX.out
      obtain ⟨b0, o0, rfl, hb0, hcz⟩ := H0.out.cells (by omega)
      obtain ⟨b1, o1, rfl, hb1, hcs⟩ := H1.out.cells (by omega)
      have g0 : wr.cell? ⟨b0, o0 + iX, none⟩ = some (.int .i64 (za iX)) := (BA.out.cell (by exact hb0)).trans (hcz iX (by omega))
      have g1 : wr.cell? ⟨b1, o1 + iX, none⟩ = some (.string (sa.getD iX ByteArray.empty)) := (BA.out.cell (by exact hb1)).trans (hcs iX (by omega))
      have q0 : (iX : Int) < (l0 : Int) := by omega
      have q1 : (iX : Int) < (l1 : Int) := by omega
      have hrep := zzreport_any fb vX (seg fa 0 iX) (za iX) (sa.getD iX ByteArray.empty) wr.drew FX.out.drew (by rw [seg_length]; omega)
      generalize hsi : sa.getD iX ByteArray.empty = si at g1 hrep
      have SI : Hid (fa iX = (za iX, si)) := by rw [HFN_fa.out, ← hsi]; exact rfl
      clear hsi
      clear hcz hcs BA
      go_wp2_with fail
      go_region_held3 (fun w' => w'.cell? ⟨b0, o0 + iX, none⟩ = some (.int .i64 (za iX)) ∧ w'.cell? ⟨b1, o1 + iX, none⟩ = some (.string si)) (go_keep) (first | (go_at_call 9; refine hrep.mono ?_; rintro e w2 ⟨rfl, v', hF, hB⟩; have k0 := (hB.cell (p := ⟨b0, o0 + iX, none⟩) (Nat.lt_of_lt_of_le hb0 hfblefb)).trans g0; have k1 := (hB.cell (p := ⟨b1, o1 + iX, none⟩) (Nat.lt_of_lt_of_le hb1 hfblefb)).trans g1))
      all_goals go_wp2
      go_roundg (n1 - (iX + 1))
      case measure => omega
      case rel =>
        refine ⟨iX + 1, v', by go_num, by omega, Nat.le_refl _, (show Aside _ from ?_), (show Aside _ from ?_)⟩
        · rw [seg_snoc, SI.out]; exact hF
        · exact BX.out.trans ((Below.refl _ wr).drew.trans (hB.mono hbasefb))
    · have hltzX : ¬ (iX : Int) < (n1 : Int) := by omega
      obtain rfl : n1 = iX := by omega
      clear hltX hkxX hinX
      have hpz1z : decide (0 < n1) = false := decide_eq_false (by have := HZ1.out; omega)
      have heA := err_nil fb vX wr (by have := FX.out; rwa [show seg fa 0 n1 = [] by rw [HZ1.out]; exact seg_nil _ (Nat.le_refl _)] at this)
      go_wp2_with fail
      refine heA.mono ?_
      rintro e wA ⟨rfl, hw⟩; subst wA
      clear heA
      have FAs : Aside (FileIs wr fb vX []) := by have := FX.out; rwa [show seg fa 0 n1 = [] by rw [HZ1.out]; exact seg_nil _ (Nat.le_refl _)] at this
      have BAs : Aside (Below w.heap.size w wr) := BX
      have QAs : Aside (Feq Prod.fst (seg fa 0 n1) []) := by rw [show seg fa 0 n1 = [] by rw [HZ1.out]; exact seg_nil _ (Nat.le_refl _)]; exact Feq.refl _
      have HPL : Hid (([] : List Pr).length ≤ 4096) := (by show _ ≤ _; simp)
      clear FX BX
      go_wp2_with fail
      go_loopg [16] n2 (fun kx s wr => ∃ (iY : Nat) (v : Value), s = .int .i64 iY ∧ iY ≤ n2 ∧ n2 - iY ≤ kx ∧ Aside (FileIs wr fb v ([] ++ seg fc 0 iY)) ∧ Aside (Below w.heap.size w wr))
      case atStart => exact ⟨0, vX, rfl, Nat.zero_le _, Nat.le_refl _, (by have := FAs.out; exact this), BAs⟩
      case round =>
        clear FAs BAs
        obtain ⟨iY, vY, rfl, hinY, hkxY, FY, BY⟩ := hrel
        by_cases hltY : iY < n2
        · have hltzY : (iY : Int) < (n2 : Int) := by omega
          have BA : Aside (Below w.heap.size w wr) := BY.out
          obtain ⟨b0, o0, rfl, hb0, hcz⟩ := H2.out.cells (by omega)
          obtain ⟨b1, o1, rfl, hb1, hcs⟩ := H3.out.cells (by omega)
          have g0 : wr.cell? ⟨b0, o0 + iY, none⟩ = some (.int .i64 (zb iY)) := (BA.out.cell (by exact hb0)).trans (hcz iY (by omega))
          have g1 : wr.cell? ⟨b1, o1 + iY, none⟩ = some (.string (sb.getD iY ByteArray.empty)) := (BA.out.cell (by exact hb1)).trans (hcs iY (by omega))
          have q0 : (iY : Int) < (l2 : Int) := by omega
          have q1 : (iY : Int) < (l3 : Int) := by omega
          have hrep := zzreport_any fb vY ([] ++ seg fc 0 iY) (zb iY) (sb.getD iY ByteArray.empty) wr.drew FY.out.drew (by have := HPL.out; simp only [List.length_append, seg_length] at this ⊢; omega)
          generalize hsi : sb.getD iY ByteArray.empty = si at g1 hrep
          have SI : Hid (fc iY = (zb iY, si)) := by rw [HFN_fc.out, ← hsi]; exact rfl
          clear hsi
          clear hcz hcs BA
          go_wp2_with fail
          go_region_held3 (fun w' => w'.cell? ⟨b0, o0 + iY, none⟩ = some (.int .i64 (zb iY)) ∧ w'.cell? ⟨b1, o1 + iY, none⟩ = some (.string si)) (go_keep) (first | (go_at_call 9; refine hrep.mono ?_; rintro e w2 ⟨rfl, v', hF, hB⟩; have k0 := (hB.cell (p := ⟨b0, o0 + iY, none⟩) (Nat.lt_of_lt_of_le hb0 hfblefb)).trans g0; have k1 := (hB.cell (p := ⟨b1, o1 + iY, none⟩) (Nat.lt_of_lt_of_le hb1 hfblefb)).trans g1))
          all_goals go_wp2
          go_roundg (n2 - (iY + 1))
          case measure => omega
          case rel =>
            refine ⟨iY + 1, v', by go_num, by omega, Nat.le_refl _, (show Aside _ from ?_), (show Aside _ from ?_)⟩
            · rw [seg_snoc, ← List.append_assoc, SI.out]; exact hF
            · exact BY.out.trans ((Below.refl _ wr).drew.trans (hB.mono hbasefb))
        · have hltzY : ¬ (iY : Int) < (n2 : Int) := by omega
          obtain rfl : n2 = iY := by omega
          clear hltY hkxY hinY
          have heB := err_some fb vY ([] ++ seg fc 0 n2) wr FY.out (by rw [List.length_append, seg_length]; have := HZ2.out; have := HZ1.out; simp only [List.length_nil]; omega) (by rw [List.length_append, seg_length]; have := HZ2.out; have := HZ1.out; simp only [List.length_nil]; omega)
          go_wp2_with fail
          refine heB.mono ?_
          rintro e wB ⟨rfl, psB, hlenB, hF, hQ, hS, hB⟩
          have FBs : Aside (FileIs wB fb vY psB) := hF
          have QBs : Aside (Feq Prod.fst ([] ++ seg fc 0 n2) psB) := hQ
          have SBs : Aside (SortedL Prod.fst psB) := hS
          have HLENB : Hid (psB.length = ([] ++ seg fc 0 n2).length) := hlenB
          have BBs : Aside (Below _ _ wB) := BY.out.trans (hB.mono hbasefb)
          clear hF hQ hS hB FY BY heB hlenB
          have hnew2 := newFile_any wB
          go_wp2_with fail
          refine hnew2.mono ?_
          rintro e w4 ⟨rfl, hF, hB⟩
          have F40 : Aside (FileIs w4 (wB.heap.size + 1) (.slice none 0 0) []) := hF
          have B40 : Aside (Below wB.heap.size wB w4) := hB
          clear hF hB hnew2
          obtain ⟨wC, hwC⟩ : ∃ wC, wC = wB := ⟨_, rfl⟩
          rw [← hwC] at F40 B40
          generalize hfb2 : wB.heap.size + 1 = fz
          have hfz : wC.heap.size + 1 = fz := by rw [hwC]; exact hfb2
          rw [hfz] at F40
          have hszC : w.heap.size ≤ wC.heap.size := by rw [hwC]; exact BBs.out.size
          have hfblefz : w.heap.size ≤ fz := by omega
          have hbasefz : wC.heap.size ≤ fz := by omega
          have BWC : Aside (Below w.heap.size w wC) := by rw [hwC]; exact BBs.out
          have HWC : Hid (wC = wB) := hwC
          clear hwC hfb2 hfz
          go_wp2_with fail
          go_loopg [19] n1 (fun kx s wr => ∃ (iD : Nat) (v : Value), s = .int .i64 iD ∧ iD ≤ n1 ∧ n1 - iD ≤ kx ∧ Aside (FileIs wr fz v (seg fa 0 iD)) ∧ Aside (Below wC.heap.size wC wr))
          case atStart => exact ⟨0, .slice none 0 0, rfl, Nat.zero_le _, Nat.le_refl _, F40, B40⟩
          case round =>
            clear F40 B40
            obtain ⟨iD, vD, rfl, hinD, hkxD, FD, BD⟩ := hrel
            by_cases hltD : iD < n1
            · have hltzD : (iD : Int) < (n1 : Int) := by omega
              have BA : Aside (Below w.heap.size w wr) := BWC.out.trans (BD.out.mono hszC)
              obtain ⟨b0, o0, rfl, hb0, hcz⟩ := H0.out.cells (by omega)
              obtain ⟨b1, o1, rfl, hb1, hcs⟩ := H1.out.cells (by omega)
              have g0 : wr.cell? ⟨b0, o0 + iD, none⟩ = some (.int .i64 (za iD)) := (BA.out.cell (by exact hb0)).trans (hcz iD (by omega))
              have g1 : wr.cell? ⟨b1, o1 + iD, none⟩ = some (.string (sa.getD iD ByteArray.empty)) := (BA.out.cell (by exact hb1)).trans (hcs iD (by omega))
              have q0 : (iD : Int) < (l0 : Int) := by omega
              have q1 : (iD : Int) < (l1 : Int) := by omega
              have hrep := zzreport_any fz vD (seg fa 0 iD) (za iD) (sa.getD iD ByteArray.empty) wr.drew FD.out.drew (by rw [seg_length]; omega)
              generalize hsi : sa.getD iD ByteArray.empty = si at g1 hrep
              have SI : Hid (fa iD = (za iD, si)) := by rw [HFN_fa.out, ← hsi]; exact rfl
              clear hsi
              clear hcz hcs BA
              go_wp2_with fail
              go_region_held3 (fun w' => w'.cell? ⟨b0, o0 + iD, none⟩ = some (.int .i64 (za iD)) ∧ w'.cell? ⟨b1, o1 + iD, none⟩ = some (.string si)) (go_keep) (first | (go_at_call 9; refine hrep.mono ?_; rintro e w2 ⟨rfl, v', hF, hB⟩; have k0 := (hB.cell (p := ⟨b0, o0 + iD, none⟩) (Nat.lt_of_lt_of_le hb0 hfblefz)).trans g0; have k1 := (hB.cell (p := ⟨b1, o1 + iD, none⟩) (Nat.lt_of_lt_of_le hb1 hfblefz)).trans g1))
              all_goals go_wp2
              go_roundg (n1 - (iD + 1))
              case measure => omega
              case rel =>
                refine ⟨iD + 1, v', by go_num, by omega, Nat.le_refl _, (show Aside _ from ?_), (show Aside _ from ?_)⟩
                · rw [seg_snoc, SI.out]; exact hF
                · exact BD.out.trans ((Below.refl _ wr).drew.trans (hB.mono hbasefz))
            · have hltzD : ¬ (iD : Int) < (n1 : Int) := by omega
              obtain rfl : n1 = iD := by omega
              clear hltD hkxD hinD
              have HPL2 : Hid ((seg fa 0 n1).length ≤ 4096) := (by show _ ≤ _; rw [seg_length]; omega)
              go_wp2_with fail
              go_loopg [20] n2 (fun kx s wr => ∃ (iG : Nat) (v : Value), s = .int .i64 iG ∧ iG ≤ n2 ∧ n2 - iG ≤ kx ∧ Aside (FileIs wr fz v (seg fa 0 n1 ++ seg fc 0 iG)) ∧ Aside (Below wC.heap.size wC wr))
              case atStart => exact ⟨0, vD, rfl, Nat.zero_le _, Nat.le_refl _, (by have := FD.out; rwa [← List.append_nil (seg fa 0 n1)] at this), BD⟩
              case round =>
                clear FD BD
                obtain ⟨iG, vG, rfl, hinG, hkxG, FG, BG⟩ := hrel
                by_cases hltG : iG < n2
                · have hltzG : (iG : Int) < (n2 : Int) := by omega
                  have BA : Aside (Below w.heap.size w wr) := BWC.out.trans (BG.out.mono hszC)
                  obtain ⟨b0, o0, rfl, hb0, hcz⟩ := H2.out.cells (by omega)
                  obtain ⟨b1, o1, rfl, hb1, hcs⟩ := H3.out.cells (by omega)
                  have g0 : wr.cell? ⟨b0, o0 + iG, none⟩ = some (.int .i64 (zb iG)) := (BA.out.cell (by exact hb0)).trans (hcz iG (by omega))
                  have g1 : wr.cell? ⟨b1, o1 + iG, none⟩ = some (.string (sb.getD iG ByteArray.empty)) := (BA.out.cell (by exact hb1)).trans (hcs iG (by omega))
                  have q0 : (iG : Int) < (l2 : Int) := by omega
                  have q1 : (iG : Int) < (l3 : Int) := by omega
                  have hrep := zzreport_any fz vG (seg fa 0 n1 ++ seg fc 0 iG) (zb iG) (sb.getD iG ByteArray.empty) wr.drew FG.out.drew (by have := HPL2.out; simp only [List.length_append, seg_length] at this ⊢; omega)
                  generalize hsi : sb.getD iG ByteArray.empty = si at g1 hrep
                  have SI : Hid (fc iG = (zb iG, si)) := by rw [HFN_fc.out, ← hsi]; exact rfl
                  clear hsi
                  clear hcz hcs BA
                  go_wp2_with fail
                  go_region_held3 (fun w' => w'.cell? ⟨b0, o0 + iG, none⟩ = some (.int .i64 (zb iG)) ∧ w'.cell? ⟨b1, o1 + iG, none⟩ = some (.string si)) (go_keep) (first | (go_at_call 9; refine hrep.mono ?_; rintro e w2 ⟨rfl, v', hF, hB⟩; have k0 := (hB.cell (p := ⟨b0, o0 + iG, none⟩) (Nat.lt_of_lt_of_le hb0 hfblefz)).trans g0; have k1 := (hB.cell (p := ⟨b1, o1 + iG, none⟩) (Nat.lt_of_lt_of_le hb1 hfblefz)).trans g1))
                  all_goals go_wp2
                  go_roundg (n2 - (iG + 1))
                  case measure => omega
                  case rel =>
                    refine ⟨iG + 1, v', by go_num, by omega, Nat.le_refl _, (show Aside _ from ?_), (show Aside _ from ?_)⟩
                    · rw [seg_snoc, ← List.append_assoc, SI.out]; exact hF
                    · exact BG.out.trans ((Below.refl _ wr).drew.trans (hB.mono hbasefz))
                · have hltzG : ¬ (iG : Int) < (n2 : Int) := by omega
                  obtain rfl : n2 = iG := by omega
                  clear hltG hkxG hinG
                  have heE := err_some fz vG (seg fa 0 n1 ++ seg fc 0 n2) wr FG.out (by rw [List.length_append, seg_length, seg_length]; have := HZ2.out; omega) (by rw [List.length_append, seg_length, seg_length]; have := HZ2.out; omega)
                  go_wp2_with fail
                  refine heE.mono ?_
                  rintro e wE ⟨rfl, psE, hlenE, hF, hQ, hS, hB⟩
                  have FEs : Aside (FileIs wE fz vG psE) := hF
                  have QEs : Aside (Feq Prod.fst (seg fa 0 n1 ++ seg fc 0 n2) psE) := hQ
                  have SEs : Aside (SortedL Prod.fst psE) := hS
                  have HLENE : Hid (psE.length = (seg fa 0 n1 ++ seg fc 0 n2).length) := hlenE
                  have BEs : Aside (Below _ _ wE) := BG.out.trans (hB.mono hbasefz)
                  clear hF hQ hS hB FG BG heE hlenE
                  have hT : ((n1 + n2 : Nat) : Int) = (n1 : Int) + (n2 : Int) := by omega
                  obtain ⟨tot, htot⟩ : ∃ tot, tot = n1 + n2 := ⟨_, rfl⟩
                  have htz : (n1 : Int) + (n2 : Int) = (tot : Int) := by omega
                  have htp : 0 < tot := by have := HZ2.out; omega
                  have htpz : (0 : Int) < (tot : Int) := by omega
                  have htb : tot ≤ 8192 := by omega
                  have het : ((tot : Int) == 0) = false := by rw [beq_eq_false_iff_ne]; omega
                  have hEl : psE.length = tot := by rw [HLENE.out, List.length_append, seg_length, seg_length]; omega
                  have hBl : psB.length = tot := by rw [HLENB.out, List.length_append, seg_length]; have := HZ1.out; simp only [List.length_nil]; omega
                  have hEq : psB = psE := feq_unique ((Feq.symm QBs.out).trans ((Feq.symm (Feq.append QAs.out (Feq.refl (seg fc 0 n2)))).trans QEs.out)) SBs.out SEs.out
                  have FB2 : FileIs wE fb vY psE := by
                    have h1 : Below wC.heap.size wC wE := BEs.out
                    have h2 := FBs.out
                    rw [← HWC.out, hEq] at h2
                    exact h2.below h1
                  obtain ⟨gB, cpB, hvB, hrowB⟩ := FB2.row hEl htp
                  obtain ⟨gE, cpE, rfl, hrowE⟩ := FEs.out.row hEl htp
                  have RB : Aside (∀ i, i < tot → wE.cell? ⟨gB, i * 2, none⟩ = some (.int .i64 psE[i]!.1) ∧ wE.cell? ⟨gB, i * 2 + 1, none⟩ = some (.string psE[i]!.2)) := hrowB
                  have RE : Aside (∀ i, i < tot → wE.cell? ⟨gE, i * 2, none⟩ = some (.int .i64 psE[i]!.1) ∧ wE.cell? ⟨gE, i * 2 + 1, none⟩ = some (.string psE[i]!.2)) := hrowE
                  have HEL : Hid _ := hEl
                  have BFIN : Aside (Below w.heap.size w wE) := BWC.out.trans (BEs.out.mono hszC)
                  subst hvB
                  have HT : Hid _ := htot
                  clear hrowB hrowE hEl hBl hEq FB2 hT htot
                  go_wp2_with (first | (go_at_call 11; refine (errCount_any _ _ _ _).mono ?_; rintro e w3 ⟨rfl, hw⟩; subst w3))
                  go_loopg [23] tot (fun kx s wr => ∃ (t : Nat), s = .int .i64 t ∧ t ≤ tot ∧ tot - t ≤ kx ∧ wr = wE)
                  case atStart => exact ⟨0, rfl, Nat.zero_le _, Nat.le_refl _, rfl⟩
                  case round =>
                    obtain ⟨t, rfl, ht, hkt, rfl⟩ := hrel
                    by_cases hlt2 : t < tot
                    · have hlt2z : (t : Int) < (tot : Int) := by omega
                      have cb1 := errLine_any gB tot cpB t _ wr hlt2 (RB.out t hlt2).1
                      have ce1 := errLine_any gE tot cpE t _ wr hlt2 (RE.out t hlt2).1
                      have cb2 := errMessage_any gB tot cpB t _ wr hlt2 (RB.out t hlt2).2
                      have ce2 := errMessage_any gE tot cpE t _ wr hlt2 (RE.out t hlt2).2
                      by_cases ht0 : t = 0
                      · subst ht0
                        generalize psE[0]!.1 = xa at *
                        generalize psE[0]!.2 = xs at *
                        have hz0 : ¬ (0 : Int) < ((0 : Nat) : Int) := by omega
                        go_wp2_with fail
                        refine cb1.mono ?_
                        rintro e w' ⟨rfl, hw⟩; subst w'
                        go_wp2_with fail
                        refine ce1.mono ?_
                        rintro e w' ⟨rfl, hw⟩; subst w'
                        go_wp2_with fail
                        refine cb2.mono ?_
                        rintro e w' ⟨rfl, hw⟩; subst w'
                        go_wp2_with fail
                        refine ce2.mono ?_
                        rintro e w' ⟨rfl, hw⟩; subst w'
                        clear cb1 cb2 ce1 ce2
                        go_wp2
                        go_roundg (tot - (0 + 1))
                        case measure => omega
                        case rel => exact ⟨0 + 1, by go_num, by omega, Nat.le_refl _, rfl⟩
                      · obtain ⟨u, rfl⟩ : ∃ u, t = u + 1 := ⟨t - 1, by omega⟩
                        have cp := errLine_any gE tot cpE u _ wr (by omega) (RE.out u (by omega)).1
                        have hle : psE[u]!.1 ≤ psE[u + 1]!.1 := sortedL_get SEs.out (by rw [HEL.out]; exact hlt2)
                        have hz0 : (0 : Int) < (u : Int) + 1 := by omega
                        have hwt : IntKind.i64.wrap (u : Int) = (u : Int) := by rw [IntKind.wrap_i64]; omega
                        rw [show ((u + 1 : Nat) : Int) = (u : Int) + 1 by omega] at cb1 cb2 ce1 ce2
                        generalize psE[u + 1]!.1 = xa at *
                        generalize psE[u + 1]!.2 = xs at *
                        generalize psE[u]!.1 = xb at *
                        go_wp2_with fail
                        refine cb1.mono ?_
                        rintro e w' ⟨rfl, hw⟩; subst w'
                        go_wp2_with fail
                        refine ce1.mono ?_
                        rintro e w' ⟨rfl, hw⟩; subst w'
                        go_wp2_with fail
                        refine cb2.mono ?_
                        rintro e w' ⟨rfl, hw⟩; subst w'
                        go_wp2_with fail
                        refine ce2.mono ?_
                        rintro e w' ⟨rfl, hw⟩; subst w'
                        go_wp2_with fail
                        refine cp.mono ?_
                        rintro e w' ⟨rfl, hw⟩; subst w'
                        go_wp2_with fail
                        refine ce1.mono ?_
                        rintro e w' ⟨rfl, hw⟩; subst w'
                        clear cb1 cb2 ce1 ce2 cp
                        go_wp2
                        go_roundg (tot - (u + 1 + 1))
                        case measure => omega
                        case rel => exact ⟨u + 1 + 1, by go_num, by omega, Nat.le_refl _, rfl⟩
                    · have hlt2z : ¬ (t : Int) < (tot : Int) := by omega
                      go_wp2
                      go_ret
                      exact ⟨rfl, BFIN.out⟩

set_option maxHeartbeats 8000000 in
set_option maxRecDepth 1000000 in
theorem again_p (a0 : Option Addr) (l0 c0 : Nat) (za : Nat → Int) (a1 : Option Addr) (l1 c1 : Nat) (sa : List ByteArray) (a2 : Option Addr) (l2 c2 : Nat) (zb : Nat → Int) (a3 : Option Addr) (l3 c3 : Nat) (sb : List ByteArray) (n1 n2 : Nat) (w : World) (h0 : IntsIn w a0 l0 za) (h1 : StrsIn w a1 l1 sa) (h2 : IntsIn w a2 l2 zb) (h3 : StrsIn w a3 l3 sb)
    (hn1 : n1 = min l0 l1) (hn2 : n2 = min l2 l3) (hc0 : l0 ≤ 4096) (hc1 : l1 ≤ 4096) (hc2 : l2 ≤ 4096) (hc3 : l3 ≤ 4096) (hz1 : 0 < n1) (hz2 : 0 < n1 + n2) :
    Calls Try.prog 4 #[.slice a0 l0 c0, .slice a1 l1 c1, .slice a2 l2 c2, .slice a3 l3 c3] w fun e w' => e = .returned (.bool true) ∧ Below w.heap.size w w' := by
  have hb2 := bytes2_any a0 l0 c0 a1 l1 c1 sa a2 l2 c2 a3 l3 c3 sb w h0.small h1.toCells h3.toCells
  have hsp1 := spend_any 1048576 a0 l0 c0 a1 l1 c1 sa w h1.toCells
  have hsp2 := fun x => spend_any x a2 l2 c2 a3 l3 c3 sb w h3.toCells
  have hmin1 := min_any (l0 : Int) (l1 : Int) w
  have hmin2 := min_any (l2 : Int) (l3 : Int) w
  rw [show (if (l0 : Int) < (l1 : Int) then (l0 : Int) else (l1 : Int)) = (n1 : Int) by split <;> omega] at hmin1
  rw [show (if (l2 : Int) < (l3 : Int) then (l2 : Int) else (l3 : Int)) = (n2 : Int) by split <;> omega] at hmin2
  have hnew := newFile_any w
  have hn10 : n1 ≤ l0 := by omega
  have hn11 : n1 ≤ l1 := by omega
  have hn20 : n2 ≤ l2 := by omega
  have hn21 : n2 ≤ l3 := by omega
  have H0 : Aside _ := h0
  have H1 : Aside _ := h1
  have H2 : Aside _ := h2
  have H3 : Aside _ := h3
  have HZ1 : Hid _ := hz1
  have HZ2 : Hid _ := hz2
  clear h0 h1 h2 h3 hn1 hn2 hz1 hz2
  have z0 : ¬ (4096 : Int) < (l0 : Int) := by omega
  have z1 : ¬ (4096 : Int) < (l1 : Int) := by omega
  have z2 : ¬ (4096 : Int) < (l2 : Int) := by omega
  have z3 : ¬ (4096 : Int) < (l3 : Int) := by omega
  obtain ⟨fa, hfa⟩ : ∃ f : Nat → Pr, f = fun i => (za i, sa.getD i ByteArray.empty) := ⟨_, rfl⟩
  obtain ⟨fc, hfc⟩ : ∃ f : Nat → Pr, f = fun i => (zb i, sb.getD i ByteArray.empty) := ⟨_, rfl⟩
  have HFN_fa : Hid _ := hfa
  have HFN_fc : Hid _ := hfc
  clear hfa hfc
  go_enter Try.func4, Try.ntmps4
  go_wp2_with fail
  refine hb2.mono ?_
  rintro e w' ⟨⟨bv, rfl⟩, hw⟩; subst w'
  cases bv
  · go_wp2
    go_ret
    exact ⟨rfl, Below.refl _ _⟩
  go_wp2_with fail
  refine hsp1.mono ?_
  rintro e w' ⟨⟨sv, rfl⟩, hw⟩; subst w'
  by_cases hsv : sv < 0
  · go_wp2
    go_ret
    exact ⟨rfl, Below.refl _ _⟩
  go_wp2_with fail
  refine (hsp2 sv).mono ?_
  rintro e w' ⟨⟨sv2, rfl⟩, hw⟩; subst w'
  by_cases hsv2 : sv2 < 0
  · go_wp2
    go_ret
    exact ⟨rfl, Below.refl _ _⟩
  go_wp2_with fail
  refine hmin1.mono ?_
  rintro e w' ⟨rfl, hw⟩; subst w'
  go_wp2_with fail
  refine hmin2.mono ?_
  rintro e w' ⟨rfl, hw⟩; subst w'
  go_wp2_with fail
  refine hnew.mono ?_
  rintro e w1 ⟨rfl, hF, hB⟩
  have F0 : Aside (FileIs w1 (w.heap.size + 1) (.slice none 0 0) []) := hF
  have B0 : Aside (Below w.heap.size w w1) := hB
  clear hF hB hb2 hsp1 hsp2 hmin1 hmin2 hnew hsv hsv2
  generalize hfb : w.heap.size + 1 = fb at *
  have hfblefb : w.heap.size ≤ fb := by omega
  have hbasefb : w.heap.size ≤ fb := by omega
  have HFB : Hid _ := hfb
  clear hfb
  go_wp2_with fail
  go_loopg [13] n1 (fun kx s wr => ∃ (iX : Nat) (v : Value), s = .int .i64 iX ∧ iX ≤ n1 ∧ n1 - iX ≤ kx ∧ Aside (FileIs wr fb v (seg fa 0 iX)) ∧ Aside (Below w.heap.size w wr))
  case atStart => exact ⟨0, .slice none 0 0, rfl, Nat.zero_le _, Nat.le_refl _, F0, B0⟩
  case round =>
    clear F0 B0
    obtain ⟨iX, vX, rfl, hinX, hkxX, FX, BX⟩ := hrel
    by_cases hltX : iX < n1
    · have hltzX : (iX : Int) < (n1 : Int) := by omega
      have BA : Aside (Below w.heap.size w wr) := BX.out
      obtain ⟨b0, o0, rfl, hb0, hcz⟩ := H0.out.cells (by omega)
      obtain ⟨b1, o1, rfl, hb1, hcs⟩ := H1.out.cells (by omega)
      have g0 : wr.cell? ⟨b0, o0 + iX, none⟩ = some (.int .i64 (za iX)) := (BA.out.cell (by exact hb0)).trans (hcz iX (by omega))
      have g1 : wr.cell? ⟨b1, o1 + iX, none⟩ = some (.string (sa.getD iX ByteArray.empty)) := (BA.out.cell (by exact hb1)).trans (hcs iX (by omega))
      have q0 : (iX : Int) < (l0 : Int) := by omega
      have q1 : (iX : Int) < (l1 : Int) := by omega
      have hrep := zzreport_any fb vX (seg fa 0 iX) (za iX) (sa.getD iX ByteArray.empty) wr.drew FX.out.drew (by rw [seg_length]; omega)
      generalize hsi : sa.getD iX ByteArray.empty = si at g1 hrep
      have SI : Hid (fa iX = (za iX, si)) := by rw [HFN_fa.out, ← hsi]; exact rfl
      clear hsi
      clear hcz hcs BA
      go_wp2_with fail
      go_region_held3 (fun w' => w'.cell? ⟨b0, o0 + iX, none⟩ = some (.int .i64 (za iX)) ∧ w'.cell? ⟨b1, o1 + iX, none⟩ = some (.string si)) (go_keep) (first | (go_at_call 9; refine hrep.mono ?_; rintro e w2 ⟨rfl, v', hF, hB⟩; have k0 := (hB.cell (p := ⟨b0, o0 + iX, none⟩) (Nat.lt_of_lt_of_le hb0 hfblefb)).trans g0; have k1 := (hB.cell (p := ⟨b1, o1 + iX, none⟩) (Nat.lt_of_lt_of_le hb1 hfblefb)).trans g1))
      all_goals go_wp2
      go_roundg (n1 - (iX + 1))
      case measure => omega
      case rel =>
        refine ⟨iX + 1, v', by go_num, by omega, Nat.le_refl _, (show Aside _ from ?_), (show Aside _ from ?_)⟩
        · rw [seg_snoc, SI.out]; exact hF
        · exact BX.out.trans ((Below.refl _ wr).drew.trans (hB.mono hbasefb))
    · have hltzX : ¬ (iX : Int) < (n1 : Int) := by omega
      obtain rfl : n1 = iX := by omega
      clear hltX hkxX hinX
      have hpz1 : 0 < n1 := HZ1.out
      have hpz1z : (0 : Int) < (n1 : Int) := by omega
      have heA := err_some fb vX (seg fa 0 n1) wr FX.out (by rw [seg_length]; omega) (by rw [seg_length]; omega)
      go_wp2_with fail
      refine heA.mono ?_
      rintro e wA ⟨rfl, psA, hlenA, hF, hQ, hS, hB⟩
      have FAs : Aside (FileIs wA fb vX psA) := hF
      have QAs : Aside (Feq Prod.fst (seg fa 0 n1) psA) := hQ
      have SAs : Aside (SortedL Prod.fst psA) := hS
      have HLENA : Hid (psA.length = (seg fa 0 n1).length) := hlenA
      have BAs : Aside (Below _ _ wA) := BX.out.trans (hB.mono hbasefb)
      clear hF hQ hS hB FX BX heA hlenA
      have hlA : psA.length = n1 := by rw [HLENA.out, seg_length]; omega
      have HPL : Hid (psA.length ≤ 4096) := (by show _ ≤ _; rw [hlA]; omega)
      obtain ⟨gA, cpA, rfl, hrow⟩ := FAs.out.row hlA hpz1
      have RA : Aside (∀ i, i < n1 → wA.cell? ⟨gA, i * 2, none⟩ = some (.int .i64 psA[i]!.1) ∧ wA.cell? ⟨gA, i * 2 + 1, none⟩ = some (.string psA[i]!.2)) := hrow
      have HLA : Hid _ := hlA
      clear hrow hlA
      go_wp2_with (first | (go_at_call 11; refine (errCount_any _ _ _ _).mono ?_; rintro e w3 ⟨rfl, hw⟩; subst w3))
      go_loopg [15] n1 (fun kx s wr => ∃ (t : Nat), s = .int .i64 ((t : Int) + 1) ∧ t + 1 ≤ n1 ∧ n1 - t ≤ kx ∧ wr = wA)
      case atStart => exact ⟨0, rfl, by omega, by omega, rfl⟩
      case round =>
        obtain ⟨t, rfl, ht, hkt, rfl⟩ := hrel
        by_cases hlt2 : t + 1 < n1
        · have hlt2z : (t : Int) + 1 < (n1 : Int) := by omega
          have cl1 := errLine_any gA n1 cpA t _ wr (by omega) (RA.out t (by omega)).1
          have cl2 := errLine_any gA n1 cpA (t + 1) _ wr (by omega) (RA.out (t + 1) (by omega)).1
          rw [show ((t + 1 : Nat) : Int) = (t : Int) + 1 by omega] at cl2
          have hle : psA[t]!.1 ≤ psA[t + 1]!.1 := sortedL_get SAs.out (by rw [HLA.out]; exact hlt2)
          generalize psA[t]!.1 = xa at cl1 hle
          generalize psA[t + 1]!.1 = xb at cl2 hle
          have hwt : IntKind.i64.wrap (t : Int) = (t : Int) := by rw [IntKind.wrap_i64]; omega
          go_wp2_with fail
          refine cl1.mono ?_
          rintro e w' ⟨rfl, hw⟩; subst w'
          go_wp2_with fail
          refine cl2.mono ?_
          rintro e w' ⟨rfl, hw⟩; subst w'
          clear cl1 cl2
          go_wp2
          go_roundg (n1 - (t + 1))
          case measure => omega
          case rel => exact ⟨t + 1, by go_num, by omega, Nat.le_refl _, rfl⟩
        · have hlt2z : ¬ (t : Int) + 1 < (n1 : Int) := by omega
          clear RA
          go_wp2_with fail
          go_loopg [16] n2 (fun kx s wr => ∃ (iY : Nat) (v : Value), s = .int .i64 iY ∧ iY ≤ n2 ∧ n2 - iY ≤ kx ∧ Aside (FileIs wr fb v (psA ++ seg fc 0 iY)) ∧ Aside (Below w.heap.size w wr))
          case atStart => exact ⟨0, (.slice (some ⟨gA, 0, none⟩) n1 cpA), rfl, Nat.zero_le _, Nat.le_refl _, (by have := FAs.out; rwa [← List.append_nil psA] at this), BAs⟩
          case round =>
            clear FAs BAs
            obtain ⟨iY, vY, rfl, hinY, hkxY, FY, BY⟩ := hrel
            by_cases hltY : iY < n2
            · have hltzY : (iY : Int) < (n2 : Int) := by omega
              have BA : Aside (Below w.heap.size w wr) := BY.out
              obtain ⟨b0, o0, rfl, hb0, hcz⟩ := H2.out.cells (by omega)
              obtain ⟨b1, o1, rfl, hb1, hcs⟩ := H3.out.cells (by omega)
              have g0 : wr.cell? ⟨b0, o0 + iY, none⟩ = some (.int .i64 (zb iY)) := (BA.out.cell (by exact hb0)).trans (hcz iY (by omega))
              have g1 : wr.cell? ⟨b1, o1 + iY, none⟩ = some (.string (sb.getD iY ByteArray.empty)) := (BA.out.cell (by exact hb1)).trans (hcs iY (by omega))
              have q0 : (iY : Int) < (l2 : Int) := by omega
              have q1 : (iY : Int) < (l3 : Int) := by omega
              have hrep := zzreport_any fb vY (psA ++ seg fc 0 iY) (zb iY) (sb.getD iY ByteArray.empty) wr.drew FY.out.drew (by have := HPL.out; simp only [List.length_append, seg_length] at this ⊢; omega)
              generalize hsi : sb.getD iY ByteArray.empty = si at g1 hrep
              have SI : Hid (fc iY = (zb iY, si)) := by rw [HFN_fc.out, ← hsi]; exact rfl
              clear hsi
              clear hcz hcs BA
              go_wp2_with fail
              go_region_held3 (fun w' => w'.cell? ⟨b0, o0 + iY, none⟩ = some (.int .i64 (zb iY)) ∧ w'.cell? ⟨b1, o1 + iY, none⟩ = some (.string si)) (go_keep) (first | (go_at_call 9; refine hrep.mono ?_; rintro e w2 ⟨rfl, v', hF, hB⟩; have k0 := (hB.cell (p := ⟨b0, o0 + iY, none⟩) (Nat.lt_of_lt_of_le hb0 hfblefb)).trans g0; have k1 := (hB.cell (p := ⟨b1, o1 + iY, none⟩) (Nat.lt_of_lt_of_le hb1 hfblefb)).trans g1))
              all_goals go_wp2
              go_roundg (n2 - (iY + 1))
              case measure => omega
              case rel =>
                refine ⟨iY + 1, v', by go_num, by omega, Nat.le_refl _, (show Aside _ from ?_), (show Aside _ from ?_)⟩
                · rw [seg_snoc, ← List.append_assoc, SI.out]; exact hF
                · exact BY.out.trans ((Below.refl _ wr).drew.trans (hB.mono hbasefb))
            · have hltzY : ¬ (iY : Int) < (n2 : Int) := by omega
              obtain rfl : n2 = iY := by omega
              clear hltY hkxY hinY
              have heB := err_some fb vY (psA ++ seg fc 0 n2) wr FY.out (by rw [List.length_append, seg_length]; have := HPL.out; have := HLA.out; omega) (by rw [List.length_append, seg_length]; have := HPL.out; have := HLA.out; omega)
              go_wp2_with fail
              refine heB.mono ?_
              rintro e wB ⟨rfl, psB, hlenB, hF, hQ, hS, hB⟩
              have FBs : Aside (FileIs wB fb vY psB) := hF
              have QBs : Aside (Feq Prod.fst (psA ++ seg fc 0 n2) psB) := hQ
              have SBs : Aside (SortedL Prod.fst psB) := hS
              have HLENB : Hid (psB.length = (psA ++ seg fc 0 n2).length) := hlenB
              have BBs : Aside (Below _ _ wB) := BY.out.trans (hB.mono hbasefb)
              clear hF hQ hS hB FY BY heB hlenB
              have hnew2 := newFile_any wB
              go_wp2_with fail
              refine hnew2.mono ?_
              rintro e w4 ⟨rfl, hF, hB⟩
              have F40 : Aside (FileIs w4 (wB.heap.size + 1) (.slice none 0 0) []) := hF
              have B40 : Aside (Below wB.heap.size wB w4) := hB
              clear hF hB hnew2
              obtain ⟨wC, hwC⟩ : ∃ wC, wC = wB := ⟨_, rfl⟩
              rw [← hwC] at F40 B40
              generalize hfb2 : wB.heap.size + 1 = fz
              have hfz : wC.heap.size + 1 = fz := by rw [hwC]; exact hfb2
              rw [hfz] at F40
              have hszC : w.heap.size ≤ wC.heap.size := by rw [hwC]; exact BBs.out.size
              have hfblefz : w.heap.size ≤ fz := by omega
              have hbasefz : wC.heap.size ≤ fz := by omega
              have BWC : Aside (Below w.heap.size w wC) := by rw [hwC]; exact BBs.out
              have HWC : Hid (wC = wB) := hwC
              clear hwC hfb2 hfz
              go_wp2_with fail
              go_loopg [19] n1 (fun kx s wr => ∃ (iD : Nat) (v : Value), s = .int .i64 iD ∧ iD ≤ n1 ∧ n1 - iD ≤ kx ∧ Aside (FileIs wr fz v (seg fa 0 iD)) ∧ Aside (Below wC.heap.size wC wr))
              case atStart => exact ⟨0, .slice none 0 0, rfl, Nat.zero_le _, Nat.le_refl _, F40, B40⟩
              case round =>
                clear F40 B40
                obtain ⟨iD, vD, rfl, hinD, hkxD, FD, BD⟩ := hrel
                by_cases hltD : iD < n1
                · have hltzD : (iD : Int) < (n1 : Int) := by omega
                  have BA : Aside (Below w.heap.size w wr) := BWC.out.trans (BD.out.mono hszC)
                  obtain ⟨b0, o0, rfl, hb0, hcz⟩ := H0.out.cells (by omega)
                  obtain ⟨b1, o1, rfl, hb1, hcs⟩ := H1.out.cells (by omega)
                  have g0 : wr.cell? ⟨b0, o0 + iD, none⟩ = some (.int .i64 (za iD)) := (BA.out.cell (by exact hb0)).trans (hcz iD (by omega))
                  have g1 : wr.cell? ⟨b1, o1 + iD, none⟩ = some (.string (sa.getD iD ByteArray.empty)) := (BA.out.cell (by exact hb1)).trans (hcs iD (by omega))
                  have q0 : (iD : Int) < (l0 : Int) := by omega
                  have q1 : (iD : Int) < (l1 : Int) := by omega
                  have hrep := zzreport_any fz vD (seg fa 0 iD) (za iD) (sa.getD iD ByteArray.empty) wr.drew FD.out.drew (by rw [seg_length]; omega)
                  generalize hsi : sa.getD iD ByteArray.empty = si at g1 hrep
                  have SI : Hid (fa iD = (za iD, si)) := by rw [HFN_fa.out, ← hsi]; exact rfl
                  clear hsi
                  clear hcz hcs BA
                  go_wp2_with fail
                  go_region_held3 (fun w' => w'.cell? ⟨b0, o0 + iD, none⟩ = some (.int .i64 (za iD)) ∧ w'.cell? ⟨b1, o1 + iD, none⟩ = some (.string si)) (go_keep) (first | (go_at_call 9; refine hrep.mono ?_; rintro e w2 ⟨rfl, v', hF, hB⟩; have k0 := (hB.cell (p := ⟨b0, o0 + iD, none⟩) (Nat.lt_of_lt_of_le hb0 hfblefz)).trans g0; have k1 := (hB.cell (p := ⟨b1, o1 + iD, none⟩) (Nat.lt_of_lt_of_le hb1 hfblefz)).trans g1))
                  all_goals go_wp2
                  go_roundg (n1 - (iD + 1))
                  case measure => omega
                  case rel =>
                    refine ⟨iD + 1, v', by go_num, by omega, Nat.le_refl _, (show Aside _ from ?_), (show Aside _ from ?_)⟩
                    · rw [seg_snoc, SI.out]; exact hF
                    · exact BD.out.trans ((Below.refl _ wr).drew.trans (hB.mono hbasefz))
                · have hltzD : ¬ (iD : Int) < (n1 : Int) := by omega
                  obtain rfl : n1 = iD := by omega
                  clear hltD hkxD hinD
                  have HPL2 : Hid ((seg fa 0 n1).length ≤ 4096) := (by show _ ≤ _; rw [seg_length]; omega)
                  go_wp2_with fail
                  go_loopg [20] n2 (fun kx s wr => ∃ (iG : Nat) (v : Value), s = .int .i64 iG ∧ iG ≤ n2 ∧ n2 - iG ≤ kx ∧ Aside (FileIs wr fz v (seg fa 0 n1 ++ seg fc 0 iG)) ∧ Aside (Below wC.heap.size wC wr))
                  case atStart => exact ⟨0, vD, rfl, Nat.zero_le _, Nat.le_refl _, (by have := FD.out; rwa [← List.append_nil (seg fa 0 n1)] at this), BD⟩
                  case round =>
                    clear FD BD
                    obtain ⟨iG, vG, rfl, hinG, hkxG, FG, BG⟩ := hrel
                    by_cases hltG : iG < n2
                    · have hltzG : (iG : Int) < (n2 : Int) := by omega
                      have BA : Aside (Below w.heap.size w wr) := BWC.out.trans (BG.out.mono hszC)
                      obtain ⟨b0, o0, rfl, hb0, hcz⟩ := H2.out.cells (by omega)
                      obtain ⟨b1, o1, rfl, hb1, hcs⟩ := H3.out.cells (by omega)
                      have g0 : wr.cell? ⟨b0, o0 + iG, none⟩ = some (.int .i64 (zb iG)) := (BA.out.cell (by exact hb0)).trans (hcz iG (by omega))
                      have g1 : wr.cell? ⟨b1, o1 + iG, none⟩ = some (.string (sb.getD iG ByteArray.empty)) := (BA.out.cell (by exact hb1)).trans (hcs iG (by omega))
                      have q0 : (iG : Int) < (l2 : Int) := by omega
                      have q1 : (iG : Int) < (l3 : Int) := by omega
                      have hrep := zzreport_any fz vG (seg fa 0 n1 ++ seg fc 0 iG) (zb iG) (sb.getD iG ByteArray.empty) wr.drew FG.out.drew (by have := HPL2.out; simp only [List.length_append, seg_length] at this ⊢; omega)
                      generalize hsi : sb.getD iG ByteArray.empty = si at g1 hrep
                      have SI : Hid (fc iG = (zb iG, si)) := by rw [HFN_fc.out, ← hsi]; exact rfl
                      clear hsi
                      clear hcz hcs BA
                      go_wp2_with fail
                      go_region_held3 (fun w' => w'.cell? ⟨b0, o0 + iG, none⟩ = some (.int .i64 (zb iG)) ∧ w'.cell? ⟨b1, o1 + iG, none⟩ = some (.string si)) (go_keep) (first | (go_at_call 9; refine hrep.mono ?_; rintro e w2 ⟨rfl, v', hF, hB⟩; have k0 := (hB.cell (p := ⟨b0, o0 + iG, none⟩) (Nat.lt_of_lt_of_le hb0 hfblefz)).trans g0; have k1 := (hB.cell (p := ⟨b1, o1 + iG, none⟩) (Nat.lt_of_lt_of_le hb1 hfblefz)).trans g1))
                      all_goals go_wp2
                      go_roundg (n2 - (iG + 1))
                      case measure => omega
                      case rel =>
                        refine ⟨iG + 1, v', by go_num, by omega, Nat.le_refl _, (show Aside _ from ?_), (show Aside _ from ?_)⟩
                        · rw [seg_snoc, ← List.append_assoc, SI.out]; exact hF
                        · exact BG.out.trans ((Below.refl _ wr).drew.trans (hB.mono hbasefz))
                    · have hltzG : ¬ (iG : Int) < (n2 : Int) := by omega
                      obtain rfl : n2 = iG := by omega
                      clear hltG hkxG hinG
                      have heE := err_some fz vG (seg fa 0 n1 ++ seg fc 0 n2) wr FG.out (by rw [List.length_append, seg_length, seg_length]; have := HZ2.out; omega) (by rw [List.length_append, seg_length, seg_length]; have := HZ2.out; omega)
                      go_wp2_with fail
                      refine heE.mono ?_
                      rintro e wE ⟨rfl, psE, hlenE, hF, hQ, hS, hB⟩
                      have FEs : Aside (FileIs wE fz vG psE) := hF
                      have QEs : Aside (Feq Prod.fst (seg fa 0 n1 ++ seg fc 0 n2) psE) := hQ
                      have SEs : Aside (SortedL Prod.fst psE) := hS
                      have HLENE : Hid (psE.length = (seg fa 0 n1 ++ seg fc 0 n2).length) := hlenE
                      have BEs : Aside (Below _ _ wE) := BG.out.trans (hB.mono hbasefz)
                      clear hF hQ hS hB FG BG heE hlenE
                      have hT : ((n1 + n2 : Nat) : Int) = (n1 : Int) + (n2 : Int) := by omega
                      obtain ⟨tot, htot⟩ : ∃ tot, tot = n1 + n2 := ⟨_, rfl⟩
                      have htz : (n1 : Int) + (n2 : Int) = (tot : Int) := by omega
                      have htp : 0 < tot := by have := HZ2.out; omega
                      have htpz : (0 : Int) < (tot : Int) := by omega
                      have htb : tot ≤ 8192 := by omega
                      have het : ((tot : Int) == 0) = false := by rw [beq_eq_false_iff_ne]; omega
                      have hEl : psE.length = tot := by rw [HLENE.out, List.length_append, seg_length, seg_length]; omega
                      have hBl : psB.length = tot := by rw [HLENB.out, List.length_append, seg_length]; have := HLA.out; omega
                      have hEq : psB = psE := feq_unique ((Feq.symm QBs.out).trans ((Feq.symm (Feq.append QAs.out (Feq.refl (seg fc 0 n2)))).trans QEs.out)) SBs.out SEs.out
                      have FB2 : FileIs wE fb vY psE := by
                        have h1 : Below wC.heap.size wC wE := BEs.out
                        have h2 := FBs.out
                        rw [← HWC.out, hEq] at h2
                        exact h2.below h1
                      obtain ⟨gB, cpB, hvB, hrowB⟩ := FB2.row hEl htp
                      obtain ⟨gE, cpE, rfl, hrowE⟩ := FEs.out.row hEl htp
                      have RB : Aside (∀ i, i < tot → wE.cell? ⟨gB, i * 2, none⟩ = some (.int .i64 psE[i]!.1) ∧ wE.cell? ⟨gB, i * 2 + 1, none⟩ = some (.string psE[i]!.2)) := hrowB
                      have RE : Aside (∀ i, i < tot → wE.cell? ⟨gE, i * 2, none⟩ = some (.int .i64 psE[i]!.1) ∧ wE.cell? ⟨gE, i * 2 + 1, none⟩ = some (.string psE[i]!.2)) := hrowE
                      have HEL : Hid _ := hEl
                      have BFIN : Aside (Below w.heap.size w wE) := BWC.out.trans (BEs.out.mono hszC)
                      subst hvB
                      have HT : Hid _ := htot
                      clear hrowB hrowE hEl hBl hEq FB2 hT htot
                      go_wp2_with (first | (go_at_call 11; refine (errCount_any _ _ _ _).mono ?_; rintro e w3 ⟨rfl, hw⟩; subst w3))
                      go_loopg [23] tot (fun kx s wr => ∃ (t : Nat), s = .int .i64 t ∧ t ≤ tot ∧ tot - t ≤ kx ∧ wr = wE)
                      case atStart => exact ⟨0, rfl, Nat.zero_le _, Nat.le_refl _, rfl⟩
                      case round =>
                        obtain ⟨t, rfl, ht, hkt, rfl⟩ := hrel
                        by_cases hlt2 : t < tot
                        · have hlt2z : (t : Int) < (tot : Int) := by omega
                          have cb1 := errLine_any gB tot cpB t _ wr hlt2 (RB.out t hlt2).1
                          have ce1 := errLine_any gE tot cpE t _ wr hlt2 (RE.out t hlt2).1
                          have cb2 := errMessage_any gB tot cpB t _ wr hlt2 (RB.out t hlt2).2
                          have ce2 := errMessage_any gE tot cpE t _ wr hlt2 (RE.out t hlt2).2
                          by_cases ht0 : t = 0
                          · subst ht0
                            generalize psE[0]!.1 = xa at *
                            generalize psE[0]!.2 = xs at *
                            have hz0 : ¬ (0 : Int) < ((0 : Nat) : Int) := by omega
                            go_wp2_with fail
                            refine cb1.mono ?_
                            rintro e w' ⟨rfl, hw⟩; subst w'
                            go_wp2_with fail
                            refine ce1.mono ?_
                            rintro e w' ⟨rfl, hw⟩; subst w'
                            go_wp2_with fail
                            refine cb2.mono ?_
                            rintro e w' ⟨rfl, hw⟩; subst w'
                            go_wp2_with fail
                            refine ce2.mono ?_
                            rintro e w' ⟨rfl, hw⟩; subst w'
                            clear cb1 cb2 ce1 ce2
                            go_wp2
                            go_roundg (tot - (0 + 1))
                            case measure => omega
                            case rel => exact ⟨0 + 1, by go_num, by omega, Nat.le_refl _, rfl⟩
                          · obtain ⟨u, rfl⟩ : ∃ u, t = u + 1 := ⟨t - 1, by omega⟩
                            have cp := errLine_any gE tot cpE u _ wr (by omega) (RE.out u (by omega)).1
                            have hle : psE[u]!.1 ≤ psE[u + 1]!.1 := sortedL_get SEs.out (by rw [HEL.out]; exact hlt2)
                            have hz0 : (0 : Int) < (u : Int) + 1 := by omega
                            have hwt : IntKind.i64.wrap (u : Int) = (u : Int) := by rw [IntKind.wrap_i64]; omega
                            rw [show ((u + 1 : Nat) : Int) = (u : Int) + 1 by omega] at cb1 cb2 ce1 ce2
                            generalize psE[u + 1]!.1 = xa at *
                            generalize psE[u + 1]!.2 = xs at *
                            generalize psE[u]!.1 = xb at *
                            go_wp2_with fail
                            refine cb1.mono ?_
                            rintro e w' ⟨rfl, hw⟩; subst w'
                            go_wp2_with fail
                            refine ce1.mono ?_
                            rintro e w' ⟨rfl, hw⟩; subst w'
                            go_wp2_with fail
                            refine cb2.mono ?_
                            rintro e w' ⟨rfl, hw⟩; subst w'
                            go_wp2_with fail
                            refine ce2.mono ?_
                            rintro e w' ⟨rfl, hw⟩; subst w'
                            go_wp2_with fail
                            refine cp.mono ?_
                            rintro e w' ⟨rfl, hw⟩; subst w'
                            go_wp2_with fail
                            refine ce1.mono ?_
                            rintro e w' ⟨rfl, hw⟩; subst w'
                            clear cb1 cb2 ce1 ce2 cp
                            go_wp2
                            go_roundg (tot - (u + 1 + 1))
                            case measure => omega
                            case rel => exact ⟨u + 1 + 1, by go_num, by omega, Nat.le_refl _, rfl⟩
                        · have hlt2z : ¬ (t : Int) < (tot : Int) := by omega
                          go_wp2
                          go_ret
                          exact ⟨rfl, BFIN.out⟩

end Go.Proofs.Qxb6614210a
