/-
  zzJoin; the bound on two lengths.
-/
import Derived.Test.Qxb6614386aFresh
namespace Go.Proofs.Qxb6614386a
open Go.RowKit
set_option linter.unusedVariables false

theorem getD_left (xs ys : List Int) (i : Nat) (h : i < xs.length) : (xs ++ ys).getD i 0 = xs.getD i 0 := by
  rw [List.getD_eq_getElem?_getD, List.getD_eq_getElem?_getD, List.getElem?_append_left h]
theorem getD_right (xs ys : List Int) (i : Nat) : (xs ++ ys).getD (xs.length + i) 0 = ys.getD i 0 := by
  rw [List.getD_eq_getElem?_getD, List.getD_eq_getElem?_getD, List.getElem?_append_right (by omega)]
  congr 2
  omega

set_option maxHeartbeats 4000000 in
set_option maxRecDepth 100000 in
theorem join_any (a1 : Option Addr) (n1 c1 : Nat) (a2 : Option Addr) (n2 c2 : Nat) (xs ys : List Int) (w : World) (h1 : Ar w (.slice a1 n1 c1) xs) (h2 : Ar w (.slice a2 n2 c2) ys) (hz : n1 + n2 ≤ 1048576) :
    Calls Try.prog 16 #[.slice a1 n1 c1, .slice a2 n2 c2] w fun e w' => (∃ v, e = .returned v ∧ Sl w' v false (xs ++ ys)) ∧ Below w.heap.size w w' := by
  obtain ⟨i0, hi, hz0, hz1, hz2⟩ := info_parts Try.info5
  have hl1 := h1.len.1
  have hl2 := h2.len.1
  have A1 : Hid (Ar w (.slice a1 n1 c1) xs) := h1
  have A2 : Hid (Ar w (.slice a2 n2 c2) ys) := h2
  have L1 : Hid (n1 = xs.length) := hl1
  have L2 : Hid (n2 = ys.length) := hl2
  obtain ⟨n, hn, hnn⟩ : ∃ n : Nat, (n1 : Int) + (n2 : Int) = (n : Int) ∧ n = n1 + n2 := ⟨n1 + n2, by omega, rfl⟩
  have LN : Hid (n = n1 + n2) := hnn
  clear h1 h2 hl1 hl2 hnn
  have hn20 : n ≤ 1048576 := by have := LN.out; omega
  obtain ⟨g, hg⟩ : ∃ g, g = w.heap.size := ⟨_, rfl⟩
  go_enter Try.func16, Try.ntmps16
  go_wp2_with (refine wpList_make_full _ rfl (.tmp 12) (.tmp 12) 22 rfl w.heap.size 5 i0 _ 1 Try.underlying22 hi hz0 hz1 .i64 .i64 (n : Int) (n : Int) n rfl rfl rfl rfl (by rw [hz2]; omega) (by unfold maxLen; omega) (Nat.le_refl _) ?_; intro w1 hown hgrow)
  have hP : Aside (Part w g n (xs ++ ys) 0 w1) := (show Aside _ from ⟨⟨hgrow.os, hgrow.tape, hgrow.output, hgrow.size, fun k hk => hgrow.block k hk (by intro h; cases h)⟩, by rw [hg]; exact Room.of_owns hown, fun j hj => by omega⟩)
  have hgg : w.heap.size ≤ g := by omega
  rw [← hg]
  clear hown hgrow hi hz0 hz1 hz2 i0 hg hz
  go_loopg [6] n1 (fun kx s wr => ∃ (i : Nat), s = .int .i64 i ∧ i ≤ n1 ∧ n1 - i ≤ kx ∧ Aside (Part w g n (xs ++ ys) i wr))
  case atStart => exact ⟨0, rfl, Nat.zero_le _, Nat.le_refl _, hP⟩
  case round =>
    clear hP
    obtain ⟨i, rfl, hin, hkx, P1⟩ := hrel
    by_cases hlt : i < n1
    · have hltz : (i : Int) < (n1 : Int) := by omega
      have hltn : (i : Int) < (n : Int) := by omega
      have hltN : i < n := by omega
      obtain ⟨b, o, rfl, hc1⟩ := A1.out.cells (by omega)
      have g0 := hc1 i (by have := L1.out; omega)
      have hbl : b < w.heap.size := World.block_lt_of_cell? _ _ g0
      have g1 : wr.cell? ⟨b, o + i, none⟩ = some (.int .u8 (xs.getD i 0)) := (P1.out.below.cell hbl).trans g0
      obtain ⟨⟨u, hu⟩, hf⟩ := P1.out.room i hltN
      have hu' : wr.cell? ⟨g, 0 + i, none⟩ = some u := by rw [Nat.zero_add]; exact hu
      have hzi : xs.getD i 0 = (xs ++ ys).getD i 0 := (getD_left xs ys i (by have := L1.out; omega)).symm
      generalize xs.getD i 0 = z at g1 hzi
      have HZ : Hid (z = (xs ++ ys).getD i 0) := hzi
      clear hc1 g0 hzi
      go_wp2
      go_roundg (n1 - (i + 1))
      case measure => omega
      case rel => exact ⟨i + 1, by go_num, by omega, Nat.le_refl _, (show Aside _ from P1.out.step hgg hltN HZ.out)⟩
    · have hltz : ¬ (i : Int) < (n1 : Int) := by omega
      obtain rfl : n1 = i := by omega
      clear hlt hin hkx
      go_wp2_with fail
      go_loopg [7] n2 (fun kx s wr => ∃ (i : Nat), s = .int .i64 i ∧ i ≤ n2 ∧ n2 - i ≤ kx ∧ Aside (Part w g n (xs ++ ys) (n1 + i) wr))
      case atStart => exact ⟨0, rfl, Nat.zero_le _, Nat.le_refl _, P1⟩
      case round =>
        clear P1
        obtain ⟨j, rfl, hjn, hjx, P2⟩ := hrel
        by_cases hlt : j < n2
        · have hjz : (j : Int) < (n2 : Int) := by omega
          obtain ⟨t, ht, htt⟩ : ∃ t : Nat, (n1 : Int) + (j : Int) = (t : Int) ∧ n1 + j = t := ⟨n1 + j, by omega, rfl⟩
          have hltn : (t : Int) < (n : Int) := by have := LN.out; omega
          have hltN : t < n := by omega
          obtain ⟨b, o, rfl, hc1⟩ := A2.out.cells (by omega)
          have g0 := hc1 j (by have := L2.out; omega)
          have hbl : b < w.heap.size := World.block_lt_of_cell? _ _ g0
          have g1 : wr.cell? ⟨b, o + j, none⟩ = some (.int .u8 (ys.getD j 0)) := (P2.out.below.cell hbl).trans g0
          obtain ⟨⟨u, hu⟩, hf⟩ := P2.out.room t hltN
          have hu' : wr.cell? ⟨g, 0 + t, none⟩ = some u := by rw [Nat.zero_add]; exact hu
          have hzi : ys.getD j 0 = (xs ++ ys).getD t 0 := by rw [← htt, L1.out]; exact (getD_right xs ys j).symm
          generalize ys.getD j 0 = z at g1 hzi
          have HZ : Hid (z = (xs ++ ys).getD t 0) := hzi
          rw [htt] at P2
          have HT : Hid (n1 + j = t) := htt
          clear hc1 g0 hzi htt
          go_wp2
          go_roundg (n2 - (j + 1))
          case measure => omega
          case rel => exact ⟨j + 1, by go_num, by omega, Nat.le_refl _, (show Aside _ from by rw [← Nat.add_assoc, HT.out]; exact P2.out.step hgg hltN HZ.out)⟩
        · have hjz : ¬ (j : Int) < (n2 : Int) := by omega
          obtain rfl : n2 = j := by omega
          have P3 : Part w g n (xs ++ ys) n wr := by have := P2.out; rwa [← LN.out] at this
          have P4 : Hid (Part w g n (xs ++ ys) n wr) := P3
          have hX : Hid (IsBytes (xs ++ ys)) := (fun y hy => by rcases List.mem_append.1 hy with h | h; exact A1.out.1 y h; exact A2.out.1 y h : IsBytes (xs ++ ys))
          have hLL : Hid ((xs ++ ys).length = n) := (by rw [List.length_append, LN.out, L1.out, L2.out] : (xs ++ ys).length = n)
          clear P3 P2
          go_wp2
          go_ret
          exact ⟨⟨_, rfl, P4.out.sl hLL.out hX.out (by unfold maxLen; omega)⟩, P4.out.below⟩

set_option maxHeartbeats 2000000 in
theorem bytes15 (a : Option Addr) (n c : Nat) (a' : Option Addr) (n' c' : Nat) (w : World) (hn : n ≤ maxLen) (hn' : n' ≤ maxLen) :
    Calls Try.prog 15 #[.slice a n c, .slice a' n' c'] w fun e w' => e = .returned (.bool (decide (n + n' ≤ 1048576))) ∧ w' = w := by
  unfold maxLen at hn hn'
  by_cases h : n + n' ≤ 1048576
  · rw [decide_eq_true h]
    have hz : ¬ (1048576 : Int) < (n : Int) := by omega
    have hz' : ¬ (1048576 : Int) < (n' : Int) := by omega
    obtain ⟨t, ht, htt⟩ : ∃ t : Nat, (n : Int) + (n' : Int) = (t : Int) ∧ n + n' = t := ⟨n + n', by omega, rfl⟩
    have hzt : ¬ (1048576 : Int) < (t : Int) := by omega
    clear htt
    go_enter Try.func15, Try.ntmps15
    go_wp2
    go_ret
    exact ⟨rfl, rfl⟩
  rw [decide_eq_false h]
  by_cases h1 : (1048576 : Int) < (n : Int)
  · go_enter Try.func15, Try.ntmps15
    go_wp2
    go_ret
    exact ⟨rfl, rfl⟩
  by_cases h2 : (1048576 : Int) < (n' : Int)
  · go_enter Try.func15, Try.ntmps15
    go_wp2
    go_ret
    exact ⟨rfl, rfl⟩
  · obtain ⟨t, ht, htt⟩ : ∃ t : Nat, (n : Int) + (n' : Int) = (t : Int) ∧ n + n' = t := ⟨n + n', by omega, rfl⟩
    have hzt : (1048576 : Int) < (t : Int) := by omega
    clear htt
    go_enter Try.func15, Try.ntmps15
    go_wp2
    go_ret
    exact ⟨rfl, rfl⟩

end Go.Proofs.Qxb6614386a
