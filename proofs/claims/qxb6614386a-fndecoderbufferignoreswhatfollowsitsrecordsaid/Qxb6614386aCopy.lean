/-
  zzBytesEqual, zzCloneBytes, zzJoin.
-/
import Derived.Test.Qxb6614386aCount
import Derived.OwnWalk
import Derived.Deep.LoopGhost
namespace Go.Proofs.Qxb6614386a
open Go.RowKit
set_option linter.unusedVariables false

/-- A slice that came in, or any other: it holds xs. -/
def Ar (w : World) (v : Value) (xs : List Int) : Prop :=
  IsBytes xs ∧ ∃ a c, v = .slice a xs.length c ∧ xs.length ≤ c ∧ c ≤ maxLen ∧ (0 < xs.length → ∃ b o, a = some ⟨b, o, none⟩ ∧ Cells w b o xs)
theorem Sl.ar {w : World} {v : Value} {nl : Bool} {xs : List Int} (h : Sl w v nl xs) : Ar w v xs := by
  rcases h with ⟨_, rfl, rfl⟩ | ⟨_, hx, b, o, c, rfl, h1, h2, h3⟩
  · exact ⟨(by intro y hy; cases hy), none, 0, rfl, Nat.le_refl _, by decide, fun h => absurd h (by decide)⟩
  · exact ⟨hx, _, c, rfl, h1, h2, fun _ => ⟨b, o, rfl, h3⟩⟩
theorem Ar.of_below {w w' : World} {v : Value} {xs : List Int} (h : Ar w v xs) (hB : Below w.heap.size w w') : Ar w' v xs := by
  obtain ⟨hx, a, c, rfl, h1, h2, h3⟩ := h
  exact ⟨hx, a, c, rfl, h1, h2, fun hl => by obtain ⟨b, o, rfl, hc⟩ := h3 hl; exact ⟨b, o, rfl, hc.of_below hB⟩⟩
theorem Ar.chg {w w' : World} {db : Nat} {v : Value} {xs : List Int} (h : Ar w v xs) (hn : NoInt w db) (hC : Chg db w w') : Ar w' v xs := by
  obtain ⟨hx, a, c, rfl, h1, h2, h3⟩ := h
  exact ⟨hx, a, c, rfl, h1, h2, fun hl => by obtain ⟨b, o, rfl, hc⟩ := h3 hl; exact ⟨b, o, rfl, hc.chg hn hC⟩⟩

theorem cells_drewN (w : World) (q b o : Nat) : (w.drewN q).cell? ⟨b, o, none⟩ = w.cell? ⟨b, o, none⟩ := rfl

set_option maxHeartbeats 4000000 in
set_option maxRecDepth 100000 in
/-- Of two slices that hold the same zzBytesEqual says true. -/
theorem equal_same (v1 v2 : Value) (xs : List Int) (w : World) (h1 : Ar w v1 xs) (h2 : Ar w v2 xs) :
    Calls Try.prog 14 #[v1, v2] w fun e w' => e = .returned (.bool true) ∧ ∃ q, w' = w.drewN q := by
  obtain ⟨hx, a, c, rfl, hl, hc, h3⟩ := h1
  obtain ⟨_, a', c', rfl, _, _, h3'⟩ := h2
  have hm : xs.length ≤ maxLen := by omega
  unfold maxLen at hm
  clear hl hc hx
  generalize hn : xs.length = n at *
  have HN : Hid _ := hn
  have A1 : Hid _ := h3
  have A2 : Hid _ := h3'
  clear hn h3 h3'
  have hnn : ((n : Int) != (n : Int)) = false := by simp
  go_enter Try.func14, Try.ntmps14
  go_wp2_with fail
  go_loopg [5] n (fun kx s wr => ∃ (i : Nat), s = .int .i64 i ∧ i ≤ n ∧ n - i ≤ kx ∧ Aside (∃ q, wr = w.drewN q))
  case atStart => exact ⟨0, rfl, Nat.zero_le _, Nat.le_refl _, (show Aside _ from ⟨0, rfl⟩)⟩
  case round =>
    obtain ⟨i, rfl, hin, hkx, Q⟩ := hrel
    by_cases hlt : i < n
    · have hltz : (i : Int) < (n : Int) := by omega
      obtain ⟨b, o, rfl, hc1⟩ := A1.out (by omega)
      obtain ⟨b', o', rfl, hc2⟩ := A2.out (by omega)
      obtain ⟨q, rfl⟩ := Q.out
      have g1 : (w.drewN q).cell? ⟨b, o + i, none⟩ = some (.int .u8 (xs.getD i 0)) := hc1 i (by rw [HN.out]; exact hlt)
      have g2 : (w.drewN q).cell? ⟨b', o' + i, none⟩ = some (.int .u8 (xs.getD i 0)) := hc2 i (by rw [HN.out]; exact hlt)
      generalize xs.getD i 0 = z at g1 g2
      have hzz : (z != z) = false := by simp
      clear hc1 hc2 Q
      generalize hw : w.drewN q = wq at *
      have HW : Hid _ := hw
      clear hw
      go_wp2_with fail
      go_quiet (fail)
      go_wp2
      go_roundg (n - (i + 1))
      case measure => omega
      case rel => 
        refine ⟨i + 1, by go_num, by omega, Nat.le_refl _, (show Aside _ from ?_)⟩
        rw [← HW.out]
        exact ⟨_, World.drewN_drewN _ _ _⟩
    · have hltz : ¬ (i : Int) < (n : Int) := by omega
      go_wp2
      go_ret
      exact ⟨rfl, Q.out⟩

/-- A made row: every cell is there and may be written. -/
def Room (w : World) (g n : Nat) : Prop := ∀ j, j < n → (∃ v, w.cell? ⟨g, j, none⟩ = some v) ∧ w.frozen? ⟨g, j, none⟩ = false
theorem Room.of_owns {w : World} {base e g n : Nat} {xs : List Value} (h : w.ownsRow base e 1 (.slice (some ⟨g, 0, none⟩) n n) n xs) : Room w g n := by
  intro j hj
  rcases h.2 with ⟨h0, _⟩ | ⟨g', cap, cur, hv, _, hg, _, _, hs, _⟩
  · cases h0
  · cases hv
    refine ⟨⟨cur[j]'(by omega), ?_⟩, ?_⟩
    · simp only [World.cell?, hg]
      rw [Array.getElem?_eq_getElem (by omega)]
      rfl
    · simp [World.frozen?, hg]
theorem Room.set {w : World} {g n : Nat} (h : Room w g n) (i : Nat) (v : Value) : Room (w.setCell ⟨g, i, none⟩ v) g n := by
  intro j hj
  obtain ⟨⟨u, hu⟩, hf⟩ := h j hj
  refine ⟨?_, by simpa using hf⟩
  by_cases hji : j = i
  · subst hji; exact ⟨v, World.cell?_setCell_same' _ _ _ (by rw [hu]; rfl)⟩
  · exact ⟨u, (World.cell?_setCell_other _ _ _ _ (by intro e; cases e; exact hji rfl)).trans hu⟩

theorem Try.info5 : (Try.prog.info? 5).map (fun i => (i.zero, i.size, i.bytes)) = some (some (.int .u8 0), 1, 1) := by kernel_rfl

set_option maxHeartbeats 1000000 in
theorem clone_nil (w : World) : Calls Try.prog 9 #[.slice none 0 0] w fun e w' => e = .returned (.slice none 0 0) ∧ w' = w := by
  have en := eql22
  go_enter Try.func9, Try.ntmps9
  go_wp2
  go_ret
  exact ⟨rfl, rfl⟩

/-- A row that is being filled: its first i cells hold those of xs. -/
structure Part (w0 : World) (g n : Nat) (xs : List Int) (i : Nat) (wr : World) : Prop where
  below : Below w0.heap.size w0 wr
  room : Room wr g n
  done : ∀ j, j < i → wr.cell? ⟨g, j, none⟩ = some (.int .u8 (xs.getD j 0))
theorem Part.step {w0 wr : World} {g n i : Nat} {xs : List Int} (h : Part w0 g n xs i wr) (hg : w0.heap.size ≤ g) (hi : i < n) {z : Int} (hz : z = xs.getD i 0) : Part w0 g n xs (i + 1) (wr.setCell ⟨g, i, none⟩ (.int .u8 z)) := by
  refine ⟨h.below.setCell hg _, h.room.set i _, fun j hj => ?_⟩
  by_cases hji : j = i
  · subst hji
    obtain ⟨⟨u, hu⟩, _⟩ := h.room j hi
    rw [hz]
    exact World.cell?_setCell_same' _ _ _ (by rw [hu]; rfl)
  · exact (World.cell?_setCell_other _ _ _ _ (by intro e; cases e; exact hji rfl)).trans (h.done j (by omega))
theorem Part.sl {w0 wr : World} {g n : Nat} {xs : List Int} (h : Part w0 g n xs n wr) (hn : xs.length = n) (hx : IsBytes xs) (hm : n ≤ maxLen) : Sl wr (.slice (some ⟨g, 0, none⟩) n n) false xs :=
  .inr ⟨rfl, hx, g, 0, n, by rw [hn], by rw [hn]; exact Nat.le_refl _, hm, fun i hi => by rw [Nat.zero_add]; exact h.done i (by omega)⟩

set_option maxHeartbeats 4000000 in
set_option maxRecDepth 100000 in
theorem clone_some (x : Addr) (c : Nat) (xs : List Int) (w : World) (h : Ar w (.slice (some x) xs.length c) xs) (hz : xs.length ≤ 1048576) :
    Calls Try.prog 9 #[.slice (some x) xs.length c] w fun e w' => (∃ v, e = .returned v ∧ Sl w' v false xs) ∧ Below w.heap.size w w' := by
  obtain ⟨i0, hi, hz0, hz1, hz2⟩ := info_parts Try.info5
  obtain ⟨hx, a, c', hv, hl, hc, h3⟩ := h
  have ⟨ha, _, hcc⟩ : some x = a ∧ xs.length = xs.length ∧ c = c' := by simpa using hv
  subst ha
  have HX : Hid _ := hx
  have A1 : Hid _ := h3
  clear h3 hx hv hcc hl hc c'
  generalize hn : xs.length = n at *
  have HN : Hid _ := hn
  clear hn
  have en := eql22
  obtain ⟨g, hg⟩ : ∃ g, g = w.heap.size := ⟨_, rfl⟩
  go_enter Try.func9, Try.ntmps9
  go_wp2_with (refine wpList_make_full _ rfl (.tmp 8) (.tmp 8) 22 rfl w.heap.size 5 i0 _ 1 Try.underlying22 hi hz0 hz1 .i64 .i64 (n : Int) (n : Int) n rfl rfl rfl rfl (by rw [hz2]; omega) (by unfold maxLen; omega) (Nat.le_refl _) ?_; intro w1 hown hgrow)
  have hP : Aside (Part w g n xs 0 w1) := (show Aside _ from ⟨⟨hgrow.os, hgrow.tape, hgrow.output, hgrow.size, fun k hk => hgrow.block k hk (by intro h; cases h)⟩, by rw [hg]; exact Room.of_owns hown, fun j hj => by omega⟩)
  have hgg : w.heap.size ≤ g := by omega
  rw [← hg]
  clear hown hgrow hi hz0 hz1 hz2 i0 hg en
  go_loopg [4] n (fun kx s wr => ∃ (i : Nat), s = .int .i64 i ∧ i ≤ n ∧ n - i ≤ kx ∧ Aside (Part w g n xs i wr))
  case atStart => exact ⟨0, rfl, Nat.zero_le _, Nat.le_refl _, hP⟩
  case round =>
    clear hP
    obtain ⟨i, rfl, hin, hkx, P1⟩ := hrel
    by_cases hlt : i < n
    · have hltz : (i : Int) < (n : Int) := by omega
      obtain ⟨b, o, hxe, hc1⟩ := A1.out (by omega)
      obtain rfl : x = ⟨b, o, none⟩ := by simpa using hxe
      have g0 := hc1 i (by rw [HN.out]; exact hlt)
      have hbl : b < w.heap.size := World.block_lt_of_cell? _ _ g0
      have g1 : wr.cell? ⟨b, o + i, none⟩ = some (.int .u8 (xs.getD i 0)) := (P1.out.below.cell hbl).trans g0
      obtain ⟨⟨u, hu⟩, hf⟩ := P1.out.room i hlt
      have hu' : wr.cell? ⟨g, 0 + i, none⟩ = some u := by rw [Nat.zero_add]; exact hu
      generalize hzi : xs.getD i 0 = z at g1
      have HZ : Hid _ := hzi
      clear hc1 g0 hzi hxe
      go_wp2
      go_roundg (n - (i + 1))
      case measure => omega
      case rel => exact ⟨i + 1, by go_num, by omega, Nat.le_refl _, (show Aside _ from P1.out.step hgg hlt HZ.out.symm)⟩
    · have hltz : ¬ (i : Int) < (n : Int) := by omega
      obtain rfl : n = i := by omega
      go_wp2
      go_ret
      exact ⟨⟨_, rfl, P1.out.sl HN.out HX.out (by unfold maxLen; omega)⟩, P1.out.below⟩

/-- The clone of what came in. -/
theorem clone_ar (a : Option Addr) (n c : Nat) (xs : List Int) (w : World) (h : Ar w (.slice a n c) xs) (hz : xs.length ≤ 1048576) (hnil : a = none → n = 0 ∧ c = 0) :
    Calls Try.prog 9 #[.slice a n c] w fun e w' => (∃ v, e = .returned v ∧ Sl w' v a.isNone xs) ∧ Below w.heap.size w w' := by
  have hn : n = xs.length := by obtain ⟨_, a', c', hv, _⟩ := h; cases hv; rfl
  subst hn
  cases a with
  | none =>
    obtain ⟨h1, rfl⟩ := hnil rfl
    rw [h1]
    refine (clone_nil w).mono ?_
    rintro e w' ⟨rfl, rfl⟩
    exact ⟨⟨_, rfl, .inl ⟨rfl, List.length_eq_zero_iff.1 h1, rfl⟩⟩, Below.refl _ _⟩
  | some x => exact clone_some x c xs w h hz

theorem clone_sl (v : Value) (nl : Bool) (xs : List Int) (w : World) (h : Sl w v nl xs) (hz : xs.length ≤ 1048576) :
    Calls Try.prog 9 #[v] w fun e w' => (∃ v, e = .returned v ∧ Sl w' v nl xs) ∧ Below w.heap.size w w' := by
  have hA := h.ar
  rcases h with ⟨rfl, rfl, rfl⟩ | ⟨rfl, hx, b, o, c, rfl, h1, h2, h3⟩
  · exact clone_ar none 0 0 [] w hA hz (fun _ => ⟨rfl, rfl⟩)
  · exact clone_ar _ _ c xs w hA hz (fun h => by cases h)

end Go.Proofs.Qxb6614386a
