/-
  THE WALK OF slices.symMergeCmpFunc: the long way.
-/
import Derived.Test.Qxb6614210aSortD
namespace Go.Proofs.Qxb6614210a
open Go.Shelf Go.RowKit Go.Lib Go.Sort Stab

namespace Stab
variable {α : Type} {key : α → Int} {f g h : Nat → α} {a s m e b mid : Nat}
theorem Sorted.congr {a b : Nat} (h : Sorted key f a b) (e : ∀ p, a ≤ p → p < b → g p = f p) : Sorted key g a b := fun i j h1 h2 h3 => by
  rw [e i h1 (by omega), e j (by omega) h3]; exact h i j h1 h2 h3
theorem Cut.idle (c : Cut key f a s m e b) (h : ¬ (s < m ∧ m < e)) : f = ro f s m e := by
  have := c.hsm; have := c.hme
  by_cases h1 : s = m
  · subst h1; exact (ro_left _ _ _).symm
  · rw [show e = m by omega]; exact (ro_right _ _ _).symm
theorem Cut.x1' (c : Cut key f a s m e b) (hg : g = ro f s m e) : Sorted key g a s := hg ▸ c.x1
theorem Cut.y1' (c : Cut key f a s m e b) (hg : g = ro f s m e) (hE : e + s = mid + m) : Sorted key g s mid := by
  have := c.hsm; have := c.hme
  have := c.y1
  rw [show s + (e - m) = mid by omega] at this
  exact hg ▸ this
theorem Cut.low_idle (c : Cut key f a s m e b) (hg : g = ro f s m e) (hE : e + s = mid + m) (hn : ¬ (a < s ∧ s < mid)) : Merged key (ro f s m e) g a mid := by
  rw [hg]
  refine Merged.of_sorted ?_
  have h1 := c.hsm; have h2 := c.hme; have h3 := c.has
  by_cases h : s = a
  · have := c.y1; rw [show s + (e - m) = mid by omega, h] at this
    rwa [h]
  · have := c.x1; rwa [show s = mid by omega] at this ⊢
theorem Cut.x2' (c : Cut key f a s m e b) (hM : Merged key (ro f s m e) g a mid) (hE : e + s = mid + m) (_ : True) : Sorted key g mid e := by
  have h1 := c.hsm; have h2 := c.hme
  have := c.x2
  rw [show s + (e - m) = mid by omega] at this
  exact this.congr fun p h1 _ => hM.out p (.inr h1)
theorem Cut.y2' (c : Cut key f a s m e b) (hM : Merged key (ro f s m e) g a mid) (hE : e + s = mid + m) : Sorted key g e b := by
  have h1 := c.hsm; have h2 := c.hme
  exact c.y2.congr fun p h1 _ => hM.out p (.inr (by omega))
theorem Cut.high_idle (c : Cut key f a s m e b) (hM : Merged key (ro f s m e) g a mid) (hE : e + s = mid + m) (hn : ¬ (mid < e ∧ e < b)) : Merged key g g mid b := by
  refine Merged.of_sorted ?_
  have h1 := c.hsm; have h2 := c.hme; have h3 := c.heb
  by_cases h : e = b
  · have := c.x2' hM hE trivial; rwa [h] at this
  · have := c.y2' hM hE; rwa [show e = mid by omega] at this
theorem Cut.merged' (c : Cut key f a s m e b) (hM : Merged key (ro f s m e) g a mid) (hh : Merged key g h mid b) (hE : e + s = mid + m) : Merged key f h a b := by
  have h1 := c.hsm; have h2 := c.hme
  have e1 : s + (e - m) = mid := by omega
  exact c.merged (g := g) (by rw [e1]; exact hM) (by rw [e1]; exact hh)
/-- The cut that the search finds. -/
theorem cut_of (h1 : Sorted key f a m) (h2 : Sorted key f m b) (has : a ≤ s) (hsm : s ≤ m) (hme : m ≤ e) (heb : e ≤ b)
    (lo : s = a ∨ e = b ∨ key (f (s - 1)) ≤ key (f e)) (hi : s = m ∨ e = m ∨ key (f (e - 1)) < key (f s)) : Cut key f a s m e b :=
  ⟨has, hsm, hme, heb, h1, h2, fun x y g1 g2 g3 g4 => by
    rcases lo with h | h | h
    · omega
    · omega
    · exact Int.le_trans (h1.le g1 (by omega) (by omega)) (Int.le_trans h (h2.le hme g3 g4)), fun x y g1 g2 g3 g4 => by
    rcases hi with h | h | h
    · omega
    · omega
    · exact Int.lt_of_le_of_lt (h2.le g3 (show y ≤ e - 1 by omega) (by omega)) (Int.lt_of_lt_of_le h (h1.le has g1 g2))⟩
end Stab

variable {P : Program} {α : Type} [Inhabited α]
set_option maxHeartbeats 8000000 in
set_option maxRecDepth 1000000 in
theorem symMerge_wayA {k : Nat} (L : Env P k) (enc : α → List Value) (key : α → Int) (cf : α → α → Int) (hcf : ∀ x y, cf x y < 0 ↔ key x < key y) (g : Nat) (cb : Array Value) (blk off cap a m b mid : Nat) (d0 d : Array α) (w0 w : World)
    (eg : ∀ args w, (callFunc g args).run P w = .ok (.enter g args) w) (hcmp : CmpLays P g cb enc k cf blk off d0.size w0)
    (R : RowK enc k w0 blk off d0) (hs : d0.size = d.size) (S : SWK enc k w0 blk off d w) (ham : a + 1 < m) (hmb : m + 1 < b) (hb : b ≤ d.size) (hsz : d.size < 4611686018427387904)
    (h1 : Sorted key (fun p => d[p]!) a m) (h2 : Sorted key (fun p => d[p]!) m b) (hm1 : 2 * mid ≤ a + b) (hm2 : a + b ≤ 2 * mid + 1) (hcase : mid < m)
    (ih : ∀ (a' m' b' : Nat) (d' : Array α) (w' : World), b' - a' < b - a → a' < m' → m' < b' → b' ≤ d'.size → d'.size = d.size → SWK enc k w0 blk off d' w' → Sorted key (fun p => d'[p]!) a' m' → Sorted key (fun p => d'[p]!) m' b' →
      Calls P 22 #[.slice (some ⟨blk, off, none⟩) d.size cap, .int .i64 a', .int .i64 m', .int .i64 b', .func (.func g) #[] cb] w' fun e w'' => e = .returned (.tuple #[]) ∧ ∃ d'' : Array α, d''.size = d'.size ∧ Merged key (fun p => d'[p]!) (fun p => d''[p]!) a' b' ∧ SWK enc k w0 blk off d'' w'') :
    Calls P 22 #[.slice (some ⟨blk, off, none⟩) d.size cap, .int .i64 a, .int .i64 m, .int .i64 b, .func (.func g) #[] cb] w fun e w' => e = .returned (.tuple #[]) ∧ ∃ d' : Array α, d'.size = d.size ∧ Merged key (fun p => d[p]!) (fun p => d'[p]!) a b ∧ SWK enc k w0 blk off d' w' := by
  have mixed := L.mixed; have t0 := L.t0; have a0 := L.a0; have z0 := L.z0; have v0 := L.v0; have t3 := L.t3; have a3 := L.a3; have z3 := L.z3; have v3 := L.v3; have t4 := L.t4; have a4 := L.a4; have z4 := L.z4; have v4 := L.v4; have t39 := L.t39; have a39 := L.a39; have z39 := L.z39; have v39 := L.v39; have t47 := L.t47; have a47 := L.a47; have z47 := L.z47; have v47 := L.v47; have t53 := L.t53; have a53 := L.a53; have z53 := L.z53; have v53 := L.v53
  have u3 := run_underlying L.t3; have u53 := run_underlying L.t53
  have aE := L.aE; have zE := L.zE
  have FG := L.f22
  have HC : Aside _ := hcmp
  have HCF : Aside _ := hcf
  have H1 : Aside _ := h1
  have H2 : Aside _ := h2
  have IH : Aside _ := ih
  have LL : Aside (Env P k) := L
  have e22 : ∀ args w, (callFunc 22 args).run P w = .ok (.enter 22 args) w := enters_of L.f22 (by kernel_rfl) rfl
  have e23 : ∀ args w, (callFunc 23 args).run P w = .ok (.enter 23 args) w := enters_of L.f23 (by kernel_rfl) rfl
  have S0 : Aside (SWK enc k w0 blk off d w) := S
  clear hcmp S L hcf h1 h2 ih
  have e1 : ((m : Int) - (a : Int) == 1) = false := by simp; omega
  have e2 : ((b : Int) - (m : Int) == 1) = false := by simp; omega
  have emid : ((a : Int) + (b : Int)) / 2 = (mid : Int) := by omega
  have hmid1 : True := trivial
  have hcz : (mid : Int) < (m : Int) := by omega
  go_enter FG, Try.ntmps22
  go_wp2
  go_loopg [20, 21] (b - a) (fun kx s t wr => ∃ (i j : Nat), s = .int .i64 i ∧ t = .int .i64 j ∧ mid + m - b ≤ i ∧ i ≤ j ∧ j ≤ mid ∧ j - i ≤ kx ∧ Aside (SWK enc k w0 blk off d wr) ∧ Aside ((i = mid + m - b ∨ key d[i - 1]! ≤ key d[mid + m - i]!) ∧ (j = mid ∨ key d[mid + m - 1 - j]! < key d[j]!)))
  case atStart => exact ⟨mid + m - b, mid, by go_num, rfl, Nat.le_refl _, by omega, Nat.le_refl _, by omega, S0, (⟨.inl rfl, .inl rfl⟩ : (mid + m - b = mid + m - b ∨ key d[mid + m - b - 1]! ≤ key d[mid + m - (mid + m - b)]!) ∧ (mid = mid ∨ key d[mid + m - 1 - mid]! < key d[mid]!))⟩
  case round =>
    clear S0
    obtain ⟨i, j, rfl, rfl, hai, hij, hjb, hkx, S1, HB⟩ := hrel
    by_cases hlt : i < j
    · have hltz : (i : Int) < (j : Int) := by omega
      obtain ⟨c, hc⟩ : ∃ c, c = (i + j) / 2 := ⟨_, rfl⟩
      obtain ⟨q, hq⟩ : ∃ q, q = mid + m - 1 - c := ⟨_, rfl⟩
      have hc1 : i ≤ c := by omega
      have hc2 : c < j := by omega
      have hq1 : q + c + 1 = mid + m := by omega
      have hcz2 : ((i : Int) + (j : Int)) / 2 = (c : Int) := by omega
      have hqz2 : (mid : Int) + (m : Int) - 1 - (c : Int) = (q : Int) := by omega
      clear hc hq
      go_wp2_with fail
      have ea24 : ((q : Int)).toNat = q := by omega
      have pa24 : (0 : Int) ≤ (q : Int) := by omega
      have ba24 : (q : Int) < (d.size : Int) := by omega
      have ra24 : IntKind.i64.wrap ((q : Int)) = (q : Int) := by rw [IntKind.wrap_i64]; omega
      have ec24 : ((c : Int)).toNat = c := by omega
      have pc24 : (0 : Int) ≤ (c : Int) := by omega
      have bc24 : (c : Int) < (d.size : Int) := by omega
      have rc24 : IntKind.i64.wrap ((c : Int)) = (c : Int) := by rw [IntKind.wrap_i64]; omega
      obtain ⟨x24, hx24⟩ : ∃ x, x = d[q]! := ⟨_, rfl⟩
      obtain ⟨y24, hy24⟩ : ∃ x, x = d[c]! := ⟨_, rfl⟩
      have l24a := S1.out.ld R (by omega) P (q) (by omega)
      have l24b := S1.out.ld R (by omega) P (c) (by omega)
      rw [← hx24] at l24a
      rw [← hy24] at l24b
      have hc24 := S1.out.cmp HC.out (by omega) x24 y24
      have HXY24 : Hid (x24 = d[q]! ∧ y24 = d[c]!) := ⟨hx24, hy24⟩
      clear hx24 hy24
      by_cases hv24 : cf x24 y24 < 0
      · have HK24 : Hid (key d[q]! < key d[c]!) := by have := (HCF.out x24 y24).1 hv24; rw [HXY24.out.1, HXY24.out.2] at this; exact this
        have hd24 : decide (cf x24 y24 < 0) = true := decide_eq_true hv24
        go_wp2_with fail
        go_quiet_grown (first | (go_at_fn g; refine Calls.grown_of (hc24 _ _)))
        have S2 : Aside (SWK enc k w0 blk off d (grow (wr.drewN nq) osq)) := S1.out.grown nq osq
        clear l24a l24b hc24 S1
        generalize grow (wr.drewN nq) osq = w2 at S2 ⊢
        clear nq osq
        go_wp2
        go_roundg (c - i)
        case measure => omega
        case rel =>
          refine ⟨i, c, rfl, rfl, hai, by omega, by omega, Nat.le_refl _, S2, (show Aside _ from ⟨HB.out.1, .inr ?_⟩)⟩
          rw [show mid + m - 1 - c = q by omega]; exact HK24.out
      · have HK24 : Hid (key d[c]! ≤ key d[q]!) := by
          have : ¬ key x24 < key y24 := fun h => hv24 ((HCF.out x24 y24).2 h)
          rw [HXY24.out.1, HXY24.out.2] at this
          show _ ≤ _
          omega
        have hd24 : decide (cf x24 y24 < 0) = false := decide_eq_false hv24
        go_wp2_with fail
        go_quiet_grown (first | (go_at_fn g; refine Calls.grown_of (hc24 _ _)))
        have S2 : Aside (SWK enc k w0 blk off d (grow (wr.drewN nq) osq)) := S1.out.grown nq osq
        clear l24a l24b hc24 S1
        generalize grow (wr.drewN nq) osq = w2 at S2 ⊢
        clear nq osq
        go_wp2
        go_roundg (j - (c + 1))
        case measure => omega
        case rel =>
          refine ⟨c + 1, j, by go_num, rfl, by omega, by omega, hjb, Nat.le_refl _, S2, (show Aside _ from ⟨.inr ?_, HB.out.2⟩)⟩
          rw [Nat.add_sub_cancel, show mid + m - (c + 1) = q by omega]; exact HK24.out
    · have hltz : ¬ (i : Int) < (j : Int) := by omega
      obtain ⟨s, hsi⟩ : ∃ s, s = i := ⟨_, rfl⟩
      obtain rfl : i = j := by omega
      subst hsi
      obtain ⟨e, he⟩ : ∃ e, e = mid + m - s := ⟨_, rfl⟩
      have hEs : e + s = mid + m := by omega
      have hez : (mid : Int) + (m : Int) - (s : Int) = (e : Int) := by omega
      have CUT : Aside (Cut key (fun p => d[p]!) a s m e b) := by
        refine cut_of H1.out H2.out (by omega) (by omega) (by omega) (by omega) ?_ ?_
        · rcases HB.out.1 with h | h
          · omega
          · right; right; rw [he]; exact h
        · rcases HB.out.2 with h | h
          · omega
          · right; right
            show key d[e - 1]! < key d[s]!
            rw [show e - 1 = mid + m - 1 - s by omega]; exact h
      have hme := CUT.out.hme
      have heb := CUT.out.heb
      have hsm := CUT.out.hsm
      have has := CUT.out.has
      clear HB H1 H2 he hai hjb
      by_cases hc1 : s < m ∧ m < e
      · obtain ⟨hc11, hc12⟩ := hc1
        have hc11z : (s : Int) < (m : Int) := by omega
        have hc12z : (m : Int) < (e : Int) := by omega
        have hcall0 := rotate_any LL.out enc g cb blk off cap s m e d0 d w0 wr R hs S1.out hc11 hc12 (by omega) hsz
        clear S1
        go_wp2_with fail
        refine hcall0.mono ?_
        rintro e' w5 ⟨rfl, d5, hd5, HE5, S5'⟩
        have S5 : Aside _ := S5'
        clear S5'
        by_cases hc2 : a < s ∧ s < mid
        · obtain ⟨hc21, hc22⟩ := hc2
          have hc21z : (a : Int) < (s : Int) := by omega
          have hc22z : (s : Int) < (mid : Int) := by omega
          have hcall1 := IH.out a s mid d5 w5 (by omega) hc21 hc22 (by omega) (by omega) S5.out (CUT.out.x1' HE5.out) (CUT.out.y1' HE5.out hEs)
          clear S5
          go_wp2_with fail
          refine hcall1.mono ?_
          rintro e' w7 ⟨rfl, d7, hd7, hM7, S7'⟩
          have S7 : Aside _ := S7'
          have HM7 : Aside (Merged key (ro (fun p => d[p]!) s m e) (fun p => d7[p]!) a mid) := by rw [← HE5.out]; exact hM7
          clear S7' hM7
          by_cases hc3 : mid < e ∧ e < b
          · obtain ⟨hc31, hc32⟩ := hc3
            have hc31z : (mid : Int) < (e : Int) := by omega
            have hc32z : (e : Int) < (b : Int) := by omega
            have hcall2 := IH.out mid e b d7 w7 (by omega) hc31 hc32 (by omega) (by omega) S7.out (CUT.out.x2' HM7.out hEs hmid1) (CUT.out.y2' HM7.out hEs)
            clear S7
            go_wp2_with fail
            all_goals
              refine hcall2.mono ?_
              rintro e' w9 ⟨rfl, d9, hd9, HM9, S9⟩
              go_wp2
              go_end0
              refine ⟨rfl, d9, by omega, ?_, S9⟩
              exact CUT.out.merged' HM7.out HM9 hEs
          · have hc3z : ¬ ((mid : Int) < (e : Int) ∧ (e : Int) < (b : Int)) := by omega
            have hM9 : Merged key (fun p => d7[p]!) (fun p => d7[p]!) mid b := CUT.out.high_idle HM7.out hEs (by omega)
            have HM9 : Aside _ := hM9
            clear hM9
            by_cases hc31 : mid < e
            · have hc31z : (mid : Int) < (e : Int) := by omega
              have hc32z : ¬ (e : Int) < (b : Int) := by omega
              go_wp2
              all_goals
                go_end0
                exact ⟨rfl, d7, by omega, CUT.out.merged' HM7.out HM9.out hEs, S7.out⟩
            · have hc31z : ¬ (mid : Int) < (e : Int) := by omega
              go_wp2
              all_goals
                go_end0
                exact ⟨rfl, d7, by omega, CUT.out.merged' HM7.out HM9.out hEs, S7.out⟩
        · have HM7 : Aside (Merged key (ro (fun p => d[p]!) s m e) (fun p => d5[p]!) a mid) := CUT.out.low_idle HE5.out hEs (by omega)
          by_cases hc21 : a < s
          · have hc21z : (a : Int) < (s : Int) := by omega
            have hc22z : ¬ (s : Int) < (mid : Int) := by omega
            by_cases hc3 : mid < e ∧ e < b
            · obtain ⟨hc31, hc32⟩ := hc3
              have hc31z : (mid : Int) < (e : Int) := by omega
              have hc32z : (e : Int) < (b : Int) := by omega
              have hcall2 := IH.out mid e b d5 w5 (by omega) hc31 hc32 (by omega) (by omega) S5.out (CUT.out.x2' HM7.out hEs hmid1) (CUT.out.y2' HM7.out hEs)
              clear S5
              go_wp2_with fail
              all_goals
                refine hcall2.mono ?_
                rintro e' w9 ⟨rfl, d9, hd9, HM9, S9⟩
                go_wp2
                go_end0
                refine ⟨rfl, d9, by omega, ?_, S9⟩
                exact CUT.out.merged' HM7.out HM9 hEs
            · have hc3z : ¬ ((mid : Int) < (e : Int) ∧ (e : Int) < (b : Int)) := by omega
              have hM9 : Merged key (fun p => d5[p]!) (fun p => d5[p]!) mid b := CUT.out.high_idle HM7.out hEs (by omega)
              have HM9 : Aside _ := hM9
              clear hM9
              by_cases hc31 : mid < e
              · have hc31z : (mid : Int) < (e : Int) := by omega
                have hc32z : ¬ (e : Int) < (b : Int) := by omega
                go_wp2
                all_goals
                  go_end0
                  exact ⟨rfl, d5, by omega, CUT.out.merged' HM7.out HM9.out hEs, S5.out⟩
              · have hc31z : ¬ (mid : Int) < (e : Int) := by omega
                go_wp2
                all_goals
                  go_end0
                  exact ⟨rfl, d5, by omega, CUT.out.merged' HM7.out HM9.out hEs, S5.out⟩
          · have hc21z : ¬ (a : Int) < (s : Int) := by omega
            by_cases hc3 : mid < e ∧ e < b
            · obtain ⟨hc31, hc32⟩ := hc3
              have hc31z : (mid : Int) < (e : Int) := by omega
              have hc32z : (e : Int) < (b : Int) := by omega
              have hcall2 := IH.out mid e b d5 w5 (by omega) hc31 hc32 (by omega) (by omega) S5.out (CUT.out.x2' HM7.out hEs hmid1) (CUT.out.y2' HM7.out hEs)
              clear S5
              go_wp2_with fail
              all_goals
                refine hcall2.mono ?_
                rintro e' w9 ⟨rfl, d9, hd9, HM9, S9⟩
                go_wp2
                go_end0
                refine ⟨rfl, d9, by omega, ?_, S9⟩
                exact CUT.out.merged' HM7.out HM9 hEs
            · have hc3z : ¬ ((mid : Int) < (e : Int) ∧ (e : Int) < (b : Int)) := by omega
              have hM9 : Merged key (fun p => d5[p]!) (fun p => d5[p]!) mid b := CUT.out.high_idle HM7.out hEs (by omega)
              have HM9 : Aside _ := hM9
              clear hM9
              by_cases hc31 : mid < e
              · have hc31z : (mid : Int) < (e : Int) := by omega
                have hc32z : ¬ (e : Int) < (b : Int) := by omega
                go_wp2
                all_goals
                  go_end0
                  exact ⟨rfl, d5, by omega, CUT.out.merged' HM7.out HM9.out hEs, S5.out⟩
              · have hc31z : ¬ (mid : Int) < (e : Int) := by omega
                go_wp2
                all_goals
                  go_end0
                  exact ⟨rfl, d5, by omega, CUT.out.merged' HM7.out HM9.out hEs, S5.out⟩
      · have HE5 : Hid ((fun p => d[p]!) = ro (fun p => d[p]!) s m e) := CUT.out.idle (by omega)
        by_cases hc11 : s < m
        · have hc11z : (s : Int) < (m : Int) := by omega
          have hc12z : ¬ (m : Int) < (e : Int) := by omega
          by_cases hc2 : a < s ∧ s < mid
          · obtain ⟨hc21, hc22⟩ := hc2
            have hc21z : (a : Int) < (s : Int) := by omega
            have hc22z : (s : Int) < (mid : Int) := by omega
            have hcall1 := IH.out a s mid d wr (by omega) hc21 hc22 (by omega) (by omega) S1.out (CUT.out.x1' HE5.out) (CUT.out.y1' HE5.out hEs)
            clear S1
            go_wp2_with fail
            refine hcall1.mono ?_
            rintro e' w7 ⟨rfl, d7, hd7, hM7, S7'⟩
            have S7 : Aside _ := S7'
            have HM7 : Aside (Merged key (ro (fun p => d[p]!) s m e) (fun p => d7[p]!) a mid) := by rw [← HE5.out]; exact hM7
            clear S7' hM7
            by_cases hc3 : mid < e ∧ e < b
            · obtain ⟨hc31, hc32⟩ := hc3
              have hc31z : (mid : Int) < (e : Int) := by omega
              have hc32z : (e : Int) < (b : Int) := by omega
              have hcall2 := IH.out mid e b d7 w7 (by omega) hc31 hc32 (by omega) (by omega) S7.out (CUT.out.x2' HM7.out hEs hmid1) (CUT.out.y2' HM7.out hEs)
              clear S7
              go_wp2_with fail
              all_goals
                refine hcall2.mono ?_
                rintro e' w9 ⟨rfl, d9, hd9, HM9, S9⟩
                go_wp2
                go_end0
                refine ⟨rfl, d9, by omega, ?_, S9⟩
                exact CUT.out.merged' HM7.out HM9 hEs
            · have hc3z : ¬ ((mid : Int) < (e : Int) ∧ (e : Int) < (b : Int)) := by omega
              have hM9 : Merged key (fun p => d7[p]!) (fun p => d7[p]!) mid b := CUT.out.high_idle HM7.out hEs (by omega)
              have HM9 : Aside _ := hM9
              clear hM9
              by_cases hc31 : mid < e
              · have hc31z : (mid : Int) < (e : Int) := by omega
                have hc32z : ¬ (e : Int) < (b : Int) := by omega
                go_wp2
                all_goals
                  go_end0
                  exact ⟨rfl, d7, by omega, CUT.out.merged' HM7.out HM9.out hEs, S7.out⟩
              · have hc31z : ¬ (mid : Int) < (e : Int) := by omega
                go_wp2
                all_goals
                  go_end0
                  exact ⟨rfl, d7, by omega, CUT.out.merged' HM7.out HM9.out hEs, S7.out⟩
          · have HM7 : Aside (Merged key (ro (fun p => d[p]!) s m e) (fun p => d[p]!) a mid) := CUT.out.low_idle HE5.out hEs (by omega)
            by_cases hc21 : a < s
            · have hc21z : (a : Int) < (s : Int) := by omega
              have hc22z : ¬ (s : Int) < (mid : Int) := by omega
              by_cases hc3 : mid < e ∧ e < b
              · obtain ⟨hc31, hc32⟩ := hc3
                have hc31z : (mid : Int) < (e : Int) := by omega
                have hc32z : (e : Int) < (b : Int) := by omega
                have hcall2 := IH.out mid e b d wr (by omega) hc31 hc32 (by omega) (by omega) S1.out (CUT.out.x2' HM7.out hEs hmid1) (CUT.out.y2' HM7.out hEs)
                clear S1
                go_wp2_with fail
                all_goals
                  refine hcall2.mono ?_
                  rintro e' w9 ⟨rfl, d9, hd9, HM9, S9⟩
                  go_wp2
                  go_end0
                  refine ⟨rfl, d9, by omega, ?_, S9⟩
                  exact CUT.out.merged' HM7.out HM9 hEs
              · have hc3z : ¬ ((mid : Int) < (e : Int) ∧ (e : Int) < (b : Int)) := by omega
                have hM9 : Merged key (fun p => d[p]!) (fun p => d[p]!) mid b := CUT.out.high_idle HM7.out hEs (by omega)
                have HM9 : Aside _ := hM9
                clear hM9
                by_cases hc31 : mid < e
                · have hc31z : (mid : Int) < (e : Int) := by omega
                  have hc32z : ¬ (e : Int) < (b : Int) := by omega
                  go_wp2
                  all_goals
                    go_end0
                    exact ⟨rfl, d, by omega, CUT.out.merged' HM7.out HM9.out hEs, S1.out⟩
                · have hc31z : ¬ (mid : Int) < (e : Int) := by omega
                  go_wp2
                  all_goals
                    go_end0
                    exact ⟨rfl, d, by omega, CUT.out.merged' HM7.out HM9.out hEs, S1.out⟩
            · have hc21z : ¬ (a : Int) < (s : Int) := by omega
              by_cases hc3 : mid < e ∧ e < b
              · obtain ⟨hc31, hc32⟩ := hc3
                have hc31z : (mid : Int) < (e : Int) := by omega
                have hc32z : (e : Int) < (b : Int) := by omega
                have hcall2 := IH.out mid e b d wr (by omega) hc31 hc32 (by omega) (by omega) S1.out (CUT.out.x2' HM7.out hEs hmid1) (CUT.out.y2' HM7.out hEs)
                clear S1
                go_wp2_with fail
                all_goals
                  refine hcall2.mono ?_
                  rintro e' w9 ⟨rfl, d9, hd9, HM9, S9⟩
                  go_wp2
                  go_end0
                  refine ⟨rfl, d9, by omega, ?_, S9⟩
                  exact CUT.out.merged' HM7.out HM9 hEs
              · have hc3z : ¬ ((mid : Int) < (e : Int) ∧ (e : Int) < (b : Int)) := by omega
                have hM9 : Merged key (fun p => d[p]!) (fun p => d[p]!) mid b := CUT.out.high_idle HM7.out hEs (by omega)
                have HM9 : Aside _ := hM9
                clear hM9
                by_cases hc31 : mid < e
                · have hc31z : (mid : Int) < (e : Int) := by omega
                  have hc32z : ¬ (e : Int) < (b : Int) := by omega
                  go_wp2
                  all_goals
                    go_end0
                    exact ⟨rfl, d, by omega, CUT.out.merged' HM7.out HM9.out hEs, S1.out⟩
                · have hc31z : ¬ (mid : Int) < (e : Int) := by omega
                  go_wp2
                  all_goals
                    go_end0
                    exact ⟨rfl, d, by omega, CUT.out.merged' HM7.out HM9.out hEs, S1.out⟩
        · have hc11z : ¬ (s : Int) < (m : Int) := by omega
          by_cases hc2 : a < s ∧ s < mid
          · obtain ⟨hc21, hc22⟩ := hc2
            have hc21z : (a : Int) < (s : Int) := by omega
            have hc22z : (s : Int) < (mid : Int) := by omega
            have hcall1 := IH.out a s mid d wr (by omega) hc21 hc22 (by omega) (by omega) S1.out (CUT.out.x1' HE5.out) (CUT.out.y1' HE5.out hEs)
            clear S1
            go_wp2_with fail
            refine hcall1.mono ?_
            rintro e' w7 ⟨rfl, d7, hd7, hM7, S7'⟩
            have S7 : Aside _ := S7'
            have HM7 : Aside (Merged key (ro (fun p => d[p]!) s m e) (fun p => d7[p]!) a mid) := by rw [← HE5.out]; exact hM7
            clear S7' hM7
            by_cases hc3 : mid < e ∧ e < b
            · obtain ⟨hc31, hc32⟩ := hc3
              have hc31z : (mid : Int) < (e : Int) := by omega
              have hc32z : (e : Int) < (b : Int) := by omega
              have hcall2 := IH.out mid e b d7 w7 (by omega) hc31 hc32 (by omega) (by omega) S7.out (CUT.out.x2' HM7.out hEs hmid1) (CUT.out.y2' HM7.out hEs)
              clear S7
              go_wp2_with fail
              all_goals
                refine hcall2.mono ?_
                rintro e' w9 ⟨rfl, d9, hd9, HM9, S9⟩
                go_wp2
                go_end0
                refine ⟨rfl, d9, by omega, ?_, S9⟩
                exact CUT.out.merged' HM7.out HM9 hEs
            · have hc3z : ¬ ((mid : Int) < (e : Int) ∧ (e : Int) < (b : Int)) := by omega
              have hM9 : Merged key (fun p => d7[p]!) (fun p => d7[p]!) mid b := CUT.out.high_idle HM7.out hEs (by omega)
              have HM9 : Aside _ := hM9
              clear hM9
              by_cases hc31 : mid < e
              · have hc31z : (mid : Int) < (e : Int) := by omega
                have hc32z : ¬ (e : Int) < (b : Int) := by omega
                go_wp2
                all_goals
                  go_end0
                  exact ⟨rfl, d7, by omega, CUT.out.merged' HM7.out HM9.out hEs, S7.out⟩
              · have hc31z : ¬ (mid : Int) < (e : Int) := by omega
                go_wp2
                all_goals
                  go_end0
                  exact ⟨rfl, d7, by omega, CUT.out.merged' HM7.out HM9.out hEs, S7.out⟩
          · have HM7 : Aside (Merged key (ro (fun p => d[p]!) s m e) (fun p => d[p]!) a mid) := CUT.out.low_idle HE5.out hEs (by omega)
            by_cases hc21 : a < s
            · have hc21z : (a : Int) < (s : Int) := by omega
              have hc22z : ¬ (s : Int) < (mid : Int) := by omega
              by_cases hc3 : mid < e ∧ e < b
              · obtain ⟨hc31, hc32⟩ := hc3
                have hc31z : (mid : Int) < (e : Int) := by omega
                have hc32z : (e : Int) < (b : Int) := by omega
                have hcall2 := IH.out mid e b d wr (by omega) hc31 hc32 (by omega) (by omega) S1.out (CUT.out.x2' HM7.out hEs hmid1) (CUT.out.y2' HM7.out hEs)
                clear S1
                go_wp2_with fail
                all_goals
                  refine hcall2.mono ?_
                  rintro e' w9 ⟨rfl, d9, hd9, HM9, S9⟩
                  go_wp2
                  go_end0
                  refine ⟨rfl, d9, by omega, ?_, S9⟩
                  exact CUT.out.merged' HM7.out HM9 hEs
              · have hc3z : ¬ ((mid : Int) < (e : Int) ∧ (e : Int) < (b : Int)) := by omega
                have hM9 : Merged key (fun p => d[p]!) (fun p => d[p]!) mid b := CUT.out.high_idle HM7.out hEs (by omega)
                have HM9 : Aside _ := hM9
                clear hM9
                by_cases hc31 : mid < e
                · have hc31z : (mid : Int) < (e : Int) := by omega
                  have hc32z : ¬ (e : Int) < (b : Int) := by omega
                  go_wp2
                  all_goals
                    go_end0
                    exact ⟨rfl, d, by omega, CUT.out.merged' HM7.out HM9.out hEs, S1.out⟩
                · have hc31z : ¬ (mid : Int) < (e : Int) := by omega
                  go_wp2
                  all_goals
                    go_end0
                    exact ⟨rfl, d, by omega, CUT.out.merged' HM7.out HM9.out hEs, S1.out⟩
            · have hc21z : ¬ (a : Int) < (s : Int) := by omega
              by_cases hc3 : mid < e ∧ e < b
              · obtain ⟨hc31, hc32⟩ := hc3
                have hc31z : (mid : Int) < (e : Int) := by omega
                have hc32z : (e : Int) < (b : Int) := by omega
                have hcall2 := IH.out mid e b d wr (by omega) hc31 hc32 (by omega) (by omega) S1.out (CUT.out.x2' HM7.out hEs hmid1) (CUT.out.y2' HM7.out hEs)
                clear S1
                go_wp2_with fail
                all_goals
                  refine hcall2.mono ?_
                  rintro e' w9 ⟨rfl, d9, hd9, HM9, S9⟩
                  go_wp2
                  go_end0
                  refine ⟨rfl, d9, by omega, ?_, S9⟩
                  exact CUT.out.merged' HM7.out HM9 hEs
              · have hc3z : ¬ ((mid : Int) < (e : Int) ∧ (e : Int) < (b : Int)) := by omega
                have hM9 : Merged key (fun p => d[p]!) (fun p => d[p]!) mid b := CUT.out.high_idle HM7.out hEs (by omega)
                have HM9 : Aside _ := hM9
                clear hM9
                by_cases hc31 : mid < e
                · have hc31z : (mid : Int) < (e : Int) := by omega
                  have hc32z : ¬ (e : Int) < (b : Int) := by omega
                  go_wp2
                  all_goals
                    go_end0
                    exact ⟨rfl, d, by omega, CUT.out.merged' HM7.out HM9.out hEs, S1.out⟩
                · have hc31z : ¬ (mid : Int) < (e : Int) := by omega
                  go_wp2
                  all_goals
                    go_end0
                    exact ⟨rfl, d, by omega, CUT.out.merged' HM7.out HM9.out hEs, S1.out⟩

set_option maxHeartbeats 8000000 in
set_option maxRecDepth 1000000 in
theorem symMerge_wayB {k : Nat} (L : Env P k) (enc : α → List Value) (key : α → Int) (cf : α → α → Int) (hcf : ∀ x y, cf x y < 0 ↔ key x < key y) (g : Nat) (cb : Array Value) (blk off cap a m b mid : Nat) (d0 d : Array α) (w0 w : World)
    (eg : ∀ args w, (callFunc g args).run P w = .ok (.enter g args) w) (hcmp : CmpLays P g cb enc k cf blk off d0.size w0)
    (R : RowK enc k w0 blk off d0) (hs : d0.size = d.size) (S : SWK enc k w0 blk off d w) (ham : a + 1 < m) (hmb : m + 1 < b) (hb : b ≤ d.size) (hsz : d.size < 4611686018427387904)
    (h1 : Sorted key (fun p => d[p]!) a m) (h2 : Sorted key (fun p => d[p]!) m b) (hm1 : 2 * mid ≤ a + b) (hm2 : a + b ≤ 2 * mid + 1) (hcase : ¬ mid < m)
    (ih : ∀ (a' m' b' : Nat) (d' : Array α) (w' : World), b' - a' < b - a → a' < m' → m' < b' → b' ≤ d'.size → d'.size = d.size → SWK enc k w0 blk off d' w' → Sorted key (fun p => d'[p]!) a' m' → Sorted key (fun p => d'[p]!) m' b' →
      Calls P 22 #[.slice (some ⟨blk, off, none⟩) d.size cap, .int .i64 a', .int .i64 m', .int .i64 b', .func (.func g) #[] cb] w' fun e w'' => e = .returned (.tuple #[]) ∧ ∃ d'' : Array α, d''.size = d'.size ∧ Merged key (fun p => d'[p]!) (fun p => d''[p]!) a' b' ∧ SWK enc k w0 blk off d'' w'') :
    Calls P 22 #[.slice (some ⟨blk, off, none⟩) d.size cap, .int .i64 a, .int .i64 m, .int .i64 b, .func (.func g) #[] cb] w fun e w' => e = .returned (.tuple #[]) ∧ ∃ d' : Array α, d'.size = d.size ∧ Merged key (fun p => d[p]!) (fun p => d'[p]!) a b ∧ SWK enc k w0 blk off d' w' := by
  have mixed := L.mixed; have t0 := L.t0; have a0 := L.a0; have z0 := L.z0; have v0 := L.v0; have t3 := L.t3; have a3 := L.a3; have z3 := L.z3; have v3 := L.v3; have t4 := L.t4; have a4 := L.a4; have z4 := L.z4; have v4 := L.v4; have t39 := L.t39; have a39 := L.a39; have z39 := L.z39; have v39 := L.v39; have t47 := L.t47; have a47 := L.a47; have z47 := L.z47; have v47 := L.v47; have t53 := L.t53; have a53 := L.a53; have z53 := L.z53; have v53 := L.v53
  have u3 := run_underlying L.t3; have u53 := run_underlying L.t53
  have aE := L.aE; have zE := L.zE
  have FG := L.f22
  have HC : Aside _ := hcmp
  have HCF : Aside _ := hcf
  have H1 : Aside _ := h1
  have H2 : Aside _ := h2
  have IH : Aside _ := ih
  have LL : Aside (Env P k) := L
  have e22 : ∀ args w, (callFunc 22 args).run P w = .ok (.enter 22 args) w := enters_of L.f22 (by kernel_rfl) rfl
  have e23 : ∀ args w, (callFunc 23 args).run P w = .ok (.enter 23 args) w := enters_of L.f23 (by kernel_rfl) rfl
  have S0 : Aside (SWK enc k w0 blk off d w) := S
  clear hcmp S L hcf h1 h2 ih
  have e1 : ((m : Int) - (a : Int) == 1) = false := by simp; omega
  have e2 : ((b : Int) - (m : Int) == 1) = false := by simp; omega
  have emid : ((a : Int) + (b : Int)) / 2 = (mid : Int) := by omega
  have hmid1 : True := trivial
  have hcz : ¬ (mid : Int) < (m : Int) := by omega
  go_enter FG, Try.ntmps22
  go_wp2
  go_loopg [20, 21] (b - a) (fun kx s t wr => ∃ (i j : Nat), s = .int .i64 i ∧ t = .int .i64 j ∧ a ≤ i ∧ i ≤ j ∧ j ≤ m ∧ j - i ≤ kx ∧ Aside (SWK enc k w0 blk off d wr) ∧ Aside ((i = a ∨ key d[i - 1]! ≤ key d[mid + m - i]!) ∧ (j = m ∨ key d[mid + m - 1 - j]! < key d[j]!)))
  case atStart => exact ⟨a, m, rfl, rfl, Nat.le_refl _, by omega, Nat.le_refl _, by omega, S0, (⟨.inl rfl, .inl rfl⟩ : (a = a ∨ key d[a - 1]! ≤ key d[mid + m - (a)]!) ∧ (m = m ∨ key d[mid + m - 1 - m]! < key d[m]!))⟩
  case round =>
    clear S0
    obtain ⟨i, j, rfl, rfl, hai, hij, hjb, hkx, S1, HB⟩ := hrel
    by_cases hlt : i < j
    · have hltz : (i : Int) < (j : Int) := by omega
      obtain ⟨c, hc⟩ : ∃ c, c = (i + j) / 2 := ⟨_, rfl⟩
      obtain ⟨q, hq⟩ : ∃ q, q = mid + m - 1 - c := ⟨_, rfl⟩
      have hc1 : i ≤ c := by omega
      have hc2 : c < j := by omega
      have hq1 : q + c + 1 = mid + m := by omega
      have hcz2 : ((i : Int) + (j : Int)) / 2 = (c : Int) := by omega
      have hqz2 : (mid : Int) + (m : Int) - 1 - (c : Int) = (q : Int) := by omega
      clear hc hq
      go_wp2_with fail
      have ea24 : ((q : Int)).toNat = q := by omega
      have pa24 : (0 : Int) ≤ (q : Int) := by omega
      have ba24 : (q : Int) < (d.size : Int) := by omega
      have ra24 : IntKind.i64.wrap ((q : Int)) = (q : Int) := by rw [IntKind.wrap_i64]; omega
      have ec24 : ((c : Int)).toNat = c := by omega
      have pc24 : (0 : Int) ≤ (c : Int) := by omega
      have bc24 : (c : Int) < (d.size : Int) := by omega
      have rc24 : IntKind.i64.wrap ((c : Int)) = (c : Int) := by rw [IntKind.wrap_i64]; omega
      obtain ⟨x24, hx24⟩ : ∃ x, x = d[q]! := ⟨_, rfl⟩
      obtain ⟨y24, hy24⟩ : ∃ x, x = d[c]! := ⟨_, rfl⟩
      have l24a := S1.out.ld R (by omega) P (q) (by omega)
      have l24b := S1.out.ld R (by omega) P (c) (by omega)
      rw [← hx24] at l24a
      rw [← hy24] at l24b
      have hc24 := S1.out.cmp HC.out (by omega) x24 y24
      have HXY24 : Hid (x24 = d[q]! ∧ y24 = d[c]!) := ⟨hx24, hy24⟩
      clear hx24 hy24
      by_cases hv24 : cf x24 y24 < 0
      · have HK24 : Hid (key d[q]! < key d[c]!) := by have := (HCF.out x24 y24).1 hv24; rw [HXY24.out.1, HXY24.out.2] at this; exact this
        have hd24 : decide (cf x24 y24 < 0) = true := decide_eq_true hv24
        go_wp2_with fail
        go_quiet_grown (first | (go_at_fn g; refine Calls.grown_of (hc24 _ _)))
        have S2 : Aside (SWK enc k w0 blk off d (grow (wr.drewN nq) osq)) := S1.out.grown nq osq
        clear l24a l24b hc24 S1
        generalize grow (wr.drewN nq) osq = w2 at S2 ⊢
        clear nq osq
        go_wp2
        go_roundg (c - i)
        case measure => omega
        case rel =>
          refine ⟨i, c, rfl, rfl, hai, by omega, by omega, Nat.le_refl _, S2, (show Aside _ from ⟨HB.out.1, .inr ?_⟩)⟩
          rw [show mid + m - 1 - c = q by omega]; exact HK24.out
      · have HK24 : Hid (key d[c]! ≤ key d[q]!) := by
          have : ¬ key x24 < key y24 := fun h => hv24 ((HCF.out x24 y24).2 h)
          rw [HXY24.out.1, HXY24.out.2] at this
          show _ ≤ _
          omega
        have hd24 : decide (cf x24 y24 < 0) = false := decide_eq_false hv24
        go_wp2_with fail
        go_quiet_grown (first | (go_at_fn g; refine Calls.grown_of (hc24 _ _)))
        have S2 : Aside (SWK enc k w0 blk off d (grow (wr.drewN nq) osq)) := S1.out.grown nq osq
        clear l24a l24b hc24 S1
        generalize grow (wr.drewN nq) osq = w2 at S2 ⊢
        clear nq osq
        go_wp2
        go_roundg (j - (c + 1))
        case measure => omega
        case rel =>
          refine ⟨c + 1, j, by go_num, rfl, by omega, by omega, hjb, Nat.le_refl _, S2, (show Aside _ from ⟨.inr ?_, HB.out.2⟩)⟩
          rw [Nat.add_sub_cancel, show mid + m - (c + 1) = q by omega]; exact HK24.out
    · have hltz : ¬ (i : Int) < (j : Int) := by omega
      obtain ⟨s, hsi⟩ : ∃ s, s = i := ⟨_, rfl⟩
      obtain rfl : i = j := by omega
      subst hsi
      obtain ⟨e, he⟩ : ∃ e, e = mid + m - s := ⟨_, rfl⟩
      have hEs : e + s = mid + m := by omega
      have hez : (mid : Int) + (m : Int) - (s : Int) = (e : Int) := by omega
      have CUT : Aside (Cut key (fun p => d[p]!) a s m e b) := by
        refine cut_of H1.out H2.out (by omega) (by omega) (by omega) (by omega) ?_ ?_
        · rcases HB.out.1 with h | h
          · omega
          · right; right; rw [he]; exact h
        · rcases HB.out.2 with h | h
          · omega
          · right; right
            show key d[e - 1]! < key d[s]!
            rw [show e - 1 = mid + m - 1 - s by omega]; exact h
      have hme := CUT.out.hme
      have heb := CUT.out.heb
      have hsm := CUT.out.hsm
      have has := CUT.out.has
      clear HB H1 H2 he hai hjb
      by_cases hc1 : s < m ∧ m < e
      · obtain ⟨hc11, hc12⟩ := hc1
        have hc11z : (s : Int) < (m : Int) := by omega
        have hc12z : (m : Int) < (e : Int) := by omega
        have hcall0 := rotate_any LL.out enc g cb blk off cap s m e d0 d w0 wr R hs S1.out hc11 hc12 (by omega) hsz
        clear S1
        go_wp2_with fail
        refine hcall0.mono ?_
        rintro e' w5 ⟨rfl, d5, hd5, HE5, S5'⟩
        have S5 : Aside _ := S5'
        clear S5'
        by_cases hc2 : a < s ∧ s < mid
        · obtain ⟨hc21, hc22⟩ := hc2
          have hc21z : (a : Int) < (s : Int) := by omega
          have hc22z : (s : Int) < (mid : Int) := by omega
          have hcall1 := IH.out a s mid d5 w5 (by omega) hc21 hc22 (by omega) (by omega) S5.out (CUT.out.x1' HE5.out) (CUT.out.y1' HE5.out hEs)
          clear S5
          go_wp2_with fail
          refine hcall1.mono ?_
          rintro e' w7 ⟨rfl, d7, hd7, hM7, S7'⟩
          have S7 : Aside _ := S7'
          have HM7 : Aside (Merged key (ro (fun p => d[p]!) s m e) (fun p => d7[p]!) a mid) := by rw [← HE5.out]; exact hM7
          clear S7' hM7
          by_cases hc3 : mid < e ∧ e < b
          · obtain ⟨hc31, hc32⟩ := hc3
            have hc31z : (mid : Int) < (e : Int) := by omega
            have hc32z : (e : Int) < (b : Int) := by omega
            have hcall2 := IH.out mid e b d7 w7 (by omega) hc31 hc32 (by omega) (by omega) S7.out (CUT.out.x2' HM7.out hEs hmid1) (CUT.out.y2' HM7.out hEs)
            clear S7
            go_wp2_with fail
            all_goals
              refine hcall2.mono ?_
              rintro e' w9 ⟨rfl, d9, hd9, HM9, S9⟩
              go_wp2
              go_end0
              refine ⟨rfl, d9, by omega, ?_, S9⟩
              exact CUT.out.merged' HM7.out HM9 hEs
          · have hc3z : ¬ ((mid : Int) < (e : Int) ∧ (e : Int) < (b : Int)) := by omega
            have hM9 : Merged key (fun p => d7[p]!) (fun p => d7[p]!) mid b := CUT.out.high_idle HM7.out hEs (by omega)
            have HM9 : Aside _ := hM9
            clear hM9
            by_cases hc31 : mid < e
            · have hc31z : (mid : Int) < (e : Int) := by omega
              have hc32z : ¬ (e : Int) < (b : Int) := by omega
              go_wp2
              all_goals
                go_end0
                exact ⟨rfl, d7, by omega, CUT.out.merged' HM7.out HM9.out hEs, S7.out⟩
            · have hc31z : ¬ (mid : Int) < (e : Int) := by omega
              go_wp2
              all_goals
                go_end0
                exact ⟨rfl, d7, by omega, CUT.out.merged' HM7.out HM9.out hEs, S7.out⟩
        · have HM7 : Aside (Merged key (ro (fun p => d[p]!) s m e) (fun p => d5[p]!) a mid) := CUT.out.low_idle HE5.out hEs (by omega)
          by_cases hc21 : a < s
          · have hc21z : (a : Int) < (s : Int) := by omega
            have hc22z : ¬ (s : Int) < (mid : Int) := by omega
            by_cases hc3 : mid < e ∧ e < b
            · obtain ⟨hc31, hc32⟩ := hc3
              have hc31z : (mid : Int) < (e : Int) := by omega
              have hc32z : (e : Int) < (b : Int) := by omega
              have hcall2 := IH.out mid e b d5 w5 (by omega) hc31 hc32 (by omega) (by omega) S5.out (CUT.out.x2' HM7.out hEs hmid1) (CUT.out.y2' HM7.out hEs)
              clear S5
              go_wp2_with fail
              all_goals
                refine hcall2.mono ?_
                rintro e' w9 ⟨rfl, d9, hd9, HM9, S9⟩
                go_wp2
                go_end0
                refine ⟨rfl, d9, by omega, ?_, S9⟩
                exact CUT.out.merged' HM7.out HM9 hEs
            · have hc3z : ¬ ((mid : Int) < (e : Int) ∧ (e : Int) < (b : Int)) := by omega
              have hM9 : Merged key (fun p => d5[p]!) (fun p => d5[p]!) mid b := CUT.out.high_idle HM7.out hEs (by omega)
              have HM9 : Aside _ := hM9
              clear hM9
              by_cases hc31 : mid < e
              · have hc31z : (mid : Int) < (e : Int) := by omega
                have hc32z : ¬ (e : Int) < (b : Int) := by omega
                go_wp2
                all_goals
                  go_end0
                  exact ⟨rfl, d5, by omega, CUT.out.merged' HM7.out HM9.out hEs, S5.out⟩
              · have hc31z : ¬ (mid : Int) < (e : Int) := by omega
                go_wp2
                all_goals
                  go_end0
                  exact ⟨rfl, d5, by omega, CUT.out.merged' HM7.out HM9.out hEs, S5.out⟩
          · have hc21z : ¬ (a : Int) < (s : Int) := by omega
            by_cases hc3 : mid < e ∧ e < b
            · obtain ⟨hc31, hc32⟩ := hc3
              have hc31z : (mid : Int) < (e : Int) := by omega
              have hc32z : (e : Int) < (b : Int) := by omega
              have hcall2 := IH.out mid e b d5 w5 (by omega) hc31 hc32 (by omega) (by omega) S5.out (CUT.out.x2' HM7.out hEs hmid1) (CUT.out.y2' HM7.out hEs)
              clear S5
              go_wp2_with fail
              all_goals
                refine hcall2.mono ?_
                rintro e' w9 ⟨rfl, d9, hd9, HM9, S9⟩
                go_wp2
                go_end0
                refine ⟨rfl, d9, by omega, ?_, S9⟩
                exact CUT.out.merged' HM7.out HM9 hEs
            · have hc3z : ¬ ((mid : Int) < (e : Int) ∧ (e : Int) < (b : Int)) := by omega
              have hM9 : Merged key (fun p => d5[p]!) (fun p => d5[p]!) mid b := CUT.out.high_idle HM7.out hEs (by omega)
              have HM9 : Aside _ := hM9
              clear hM9
              by_cases hc31 : mid < e
              · have hc31z : (mid : Int) < (e : Int) := by omega
                have hc32z : ¬ (e : Int) < (b : Int) := by omega
                go_wp2
                all_goals
                  go_end0
                  exact ⟨rfl, d5, by omega, CUT.out.merged' HM7.out HM9.out hEs, S5.out⟩
              · have hc31z : ¬ (mid : Int) < (e : Int) := by omega
                go_wp2
                all_goals
                  go_end0
                  exact ⟨rfl, d5, by omega, CUT.out.merged' HM7.out HM9.out hEs, S5.out⟩
      · have HE5 : Hid ((fun p => d[p]!) = ro (fun p => d[p]!) s m e) := CUT.out.idle (by omega)
        by_cases hc11 : s < m
        · have hc11z : (s : Int) < (m : Int) := by omega
          have hc12z : ¬ (m : Int) < (e : Int) := by omega
          by_cases hc2 : a < s ∧ s < mid
          · obtain ⟨hc21, hc22⟩ := hc2
            have hc21z : (a : Int) < (s : Int) := by omega
            have hc22z : (s : Int) < (mid : Int) := by omega
            have hcall1 := IH.out a s mid d wr (by omega) hc21 hc22 (by omega) (by omega) S1.out (CUT.out.x1' HE5.out) (CUT.out.y1' HE5.out hEs)
            clear S1
            go_wp2_with fail
            refine hcall1.mono ?_
            rintro e' w7 ⟨rfl, d7, hd7, hM7, S7'⟩
            have S7 : Aside _ := S7'
            have HM7 : Aside (Merged key (ro (fun p => d[p]!) s m e) (fun p => d7[p]!) a mid) := by rw [← HE5.out]; exact hM7
            clear S7' hM7
            by_cases hc3 : mid < e ∧ e < b
            · obtain ⟨hc31, hc32⟩ := hc3
              have hc31z : (mid : Int) < (e : Int) := by omega
              have hc32z : (e : Int) < (b : Int) := by omega
              have hcall2 := IH.out mid e b d7 w7 (by omega) hc31 hc32 (by omega) (by omega) S7.out (CUT.out.x2' HM7.out hEs hmid1) (CUT.out.y2' HM7.out hEs)
              clear S7
              go_wp2_with fail
              all_goals
                refine hcall2.mono ?_
                rintro e' w9 ⟨rfl, d9, hd9, HM9, S9⟩
                go_wp2
                go_end0
                refine ⟨rfl, d9, by omega, ?_, S9⟩
                exact CUT.out.merged' HM7.out HM9 hEs
            · have hc3z : ¬ ((mid : Int) < (e : Int) ∧ (e : Int) < (b : Int)) := by omega
              have hM9 : Merged key (fun p => d7[p]!) (fun p => d7[p]!) mid b := CUT.out.high_idle HM7.out hEs (by omega)
              have HM9 : Aside _ := hM9
              clear hM9
              by_cases hc31 : mid < e
              · have hc31z : (mid : Int) < (e : Int) := by omega
                have hc32z : ¬ (e : Int) < (b : Int) := by omega
                go_wp2
                all_goals
                  go_end0
                  exact ⟨rfl, d7, by omega, CUT.out.merged' HM7.out HM9.out hEs, S7.out⟩
              · have hc31z : ¬ (mid : Int) < (e : Int) := by omega
                go_wp2
                all_goals
                  go_end0
                  exact ⟨rfl, d7, by omega, CUT.out.merged' HM7.out HM9.out hEs, S7.out⟩
          · have HM7 : Aside (Merged key (ro (fun p => d[p]!) s m e) (fun p => d[p]!) a mid) := CUT.out.low_idle HE5.out hEs (by omega)
            by_cases hc21 : a < s
            · have hc21z : (a : Int) < (s : Int) := by omega
              have hc22z : ¬ (s : Int) < (mid : Int) := by omega
              by_cases hc3 : mid < e ∧ e < b
              · obtain ⟨hc31, hc32⟩ := hc3
                have hc31z : (mid : Int) < (e : Int) := by omega
                have hc32z : (e : Int) < (b : Int) := by omega
                have hcall2 := IH.out mid e b d wr (by omega) hc31 hc32 (by omega) (by omega) S1.out (CUT.out.x2' HM7.out hEs hmid1) (CUT.out.y2' HM7.out hEs)
                clear S1
                go_wp2_with fail
                all_goals
                  refine hcall2.mono ?_
                  rintro e' w9 ⟨rfl, d9, hd9, HM9, S9⟩
                  go_wp2
                  go_end0
                  refine ⟨rfl, d9, by omega, ?_, S9⟩
                  exact CUT.out.merged' HM7.out HM9 hEs
              · have hc3z : ¬ ((mid : Int) < (e : Int) ∧ (e : Int) < (b : Int)) := by omega
                have hM9 : Merged key (fun p => d[p]!) (fun p => d[p]!) mid b := CUT.out.high_idle HM7.out hEs (by omega)
                have HM9 : Aside _ := hM9
                clear hM9
                by_cases hc31 : mid < e
                · have hc31z : (mid : Int) < (e : Int) := by omega
                  have hc32z : ¬ (e : Int) < (b : Int) := by omega
                  go_wp2
                  all_goals
                    go_end0
                    exact ⟨rfl, d, by omega, CUT.out.merged' HM7.out HM9.out hEs, S1.out⟩
                · have hc31z : ¬ (mid : Int) < (e : Int) := by omega
                  go_wp2
                  all_goals
                    go_end0
                    exact ⟨rfl, d, by omega, CUT.out.merged' HM7.out HM9.out hEs, S1.out⟩
            · have hc21z : ¬ (a : Int) < (s : Int) := by omega
              by_cases hc3 : mid < e ∧ e < b
              · obtain ⟨hc31, hc32⟩ := hc3
                have hc31z : (mid : Int) < (e : Int) := by omega
                have hc32z : (e : Int) < (b : Int) := by omega
                have hcall2 := IH.out mid e b d wr (by omega) hc31 hc32 (by omega) (by omega) S1.out (CUT.out.x2' HM7.out hEs hmid1) (CUT.out.y2' HM7.out hEs)
                clear S1
                go_wp2_with fail
                all_goals
                  refine hcall2.mono ?_
                  rintro e' w9 ⟨rfl, d9, hd9, HM9, S9⟩
                  go_wp2
                  go_end0
                  refine ⟨rfl, d9, by omega, ?_, S9⟩
                  exact CUT.out.merged' HM7.out HM9 hEs
              · have hc3z : ¬ ((mid : Int) < (e : Int) ∧ (e : Int) < (b : Int)) := by omega
                have hM9 : Merged key (fun p => d[p]!) (fun p => d[p]!) mid b := CUT.out.high_idle HM7.out hEs (by omega)
                have HM9 : Aside _ := hM9
                clear hM9
                by_cases hc31 : mid < e
                · have hc31z : (mid : Int) < (e : Int) := by omega
                  have hc32z : ¬ (e : Int) < (b : Int) := by omega
                  go_wp2
                  all_goals
                    go_end0
                    exact ⟨rfl, d, by omega, CUT.out.merged' HM7.out HM9.out hEs, S1.out⟩
                · have hc31z : ¬ (mid : Int) < (e : Int) := by omega
                  go_wp2
                  all_goals
                    go_end0
                    exact ⟨rfl, d, by omega, CUT.out.merged' HM7.out HM9.out hEs, S1.out⟩
        · have hc11z : ¬ (s : Int) < (m : Int) := by omega
          by_cases hc2 : a < s ∧ s < mid
          · obtain ⟨hc21, hc22⟩ := hc2
            have hc21z : (a : Int) < (s : Int) := by omega
            have hc22z : (s : Int) < (mid : Int) := by omega
            have hcall1 := IH.out a s mid d wr (by omega) hc21 hc22 (by omega) (by omega) S1.out (CUT.out.x1' HE5.out) (CUT.out.y1' HE5.out hEs)
            clear S1
            go_wp2_with fail
            refine hcall1.mono ?_
            rintro e' w7 ⟨rfl, d7, hd7, hM7, S7'⟩
            have S7 : Aside _ := S7'
            have HM7 : Aside (Merged key (ro (fun p => d[p]!) s m e) (fun p => d7[p]!) a mid) := by rw [← HE5.out]; exact hM7
            clear S7' hM7
            by_cases hc3 : mid < e ∧ e < b
            · obtain ⟨hc31, hc32⟩ := hc3
              have hc31z : (mid : Int) < (e : Int) := by omega
              have hc32z : (e : Int) < (b : Int) := by omega
              have hcall2 := IH.out mid e b d7 w7 (by omega) hc31 hc32 (by omega) (by omega) S7.out (CUT.out.x2' HM7.out hEs hmid1) (CUT.out.y2' HM7.out hEs)
              clear S7
              go_wp2_with fail
              all_goals
                refine hcall2.mono ?_
                rintro e' w9 ⟨rfl, d9, hd9, HM9, S9⟩
                go_wp2
                go_end0
                refine ⟨rfl, d9, by omega, ?_, S9⟩
                exact CUT.out.merged' HM7.out HM9 hEs
            · have hc3z : ¬ ((mid : Int) < (e : Int) ∧ (e : Int) < (b : Int)) := by omega
              have hM9 : Merged key (fun p => d7[p]!) (fun p => d7[p]!) mid b := CUT.out.high_idle HM7.out hEs (by omega)
              have HM9 : Aside _ := hM9
              clear hM9
              by_cases hc31 : mid < e
              · have hc31z : (mid : Int) < (e : Int) := by omega
                have hc32z : ¬ (e : Int) < (b : Int) := by omega
                go_wp2
                all_goals
                  go_end0
                  exact ⟨rfl, d7, by omega, CUT.out.merged' HM7.out HM9.out hEs, S7.out⟩
              · have hc31z : ¬ (mid : Int) < (e : Int) := by omega
                go_wp2
                all_goals
                  go_end0
                  exact ⟨rfl, d7, by omega, CUT.out.merged' HM7.out HM9.out hEs, S7.out⟩
          · have HM7 : Aside (Merged key (ro (fun p => d[p]!) s m e) (fun p => d[p]!) a mid) := CUT.out.low_idle HE5.out hEs (by omega)
            by_cases hc21 : a < s
            · have hc21z : (a : Int) < (s : Int) := by omega
              have hc22z : ¬ (s : Int) < (mid : Int) := by omega
              by_cases hc3 : mid < e ∧ e < b
              · obtain ⟨hc31, hc32⟩ := hc3
                have hc31z : (mid : Int) < (e : Int) := by omega
                have hc32z : (e : Int) < (b : Int) := by omega
                have hcall2 := IH.out mid e b d wr (by omega) hc31 hc32 (by omega) (by omega) S1.out (CUT.out.x2' HM7.out hEs hmid1) (CUT.out.y2' HM7.out hEs)
                clear S1
                go_wp2_with fail
                all_goals
                  refine hcall2.mono ?_
                  rintro e' w9 ⟨rfl, d9, hd9, HM9, S9⟩
                  go_wp2
                  go_end0
                  refine ⟨rfl, d9, by omega, ?_, S9⟩
                  exact CUT.out.merged' HM7.out HM9 hEs
              · have hc3z : ¬ ((mid : Int) < (e : Int) ∧ (e : Int) < (b : Int)) := by omega
                have hM9 : Merged key (fun p => d[p]!) (fun p => d[p]!) mid b := CUT.out.high_idle HM7.out hEs (by omega)
                have HM9 : Aside _ := hM9
                clear hM9
                by_cases hc31 : mid < e
                · have hc31z : (mid : Int) < (e : Int) := by omega
                  have hc32z : ¬ (e : Int) < (b : Int) := by omega
                  go_wp2
                  all_goals
                    go_end0
                    exact ⟨rfl, d, by omega, CUT.out.merged' HM7.out HM9.out hEs, S1.out⟩
                · have hc31z : ¬ (mid : Int) < (e : Int) := by omega
                  go_wp2
                  all_goals
                    go_end0
                    exact ⟨rfl, d, by omega, CUT.out.merged' HM7.out HM9.out hEs, S1.out⟩
            · have hc21z : ¬ (a : Int) < (s : Int) := by omega
              by_cases hc3 : mid < e ∧ e < b
              · obtain ⟨hc31, hc32⟩ := hc3
                have hc31z : (mid : Int) < (e : Int) := by omega
                have hc32z : (e : Int) < (b : Int) := by omega
                have hcall2 := IH.out mid e b d wr (by omega) hc31 hc32 (by omega) (by omega) S1.out (CUT.out.x2' HM7.out hEs hmid1) (CUT.out.y2' HM7.out hEs)
                clear S1
                go_wp2_with fail
                all_goals
                  refine hcall2.mono ?_
                  rintro e' w9 ⟨rfl, d9, hd9, HM9, S9⟩
                  go_wp2
                  go_end0
                  refine ⟨rfl, d9, by omega, ?_, S9⟩
                  exact CUT.out.merged' HM7.out HM9 hEs
              · have hc3z : ¬ ((mid : Int) < (e : Int) ∧ (e : Int) < (b : Int)) := by omega
                have hM9 : Merged key (fun p => d[p]!) (fun p => d[p]!) mid b := CUT.out.high_idle HM7.out hEs (by omega)
                have HM9 : Aside _ := hM9
                clear hM9
                by_cases hc31 : mid < e
                · have hc31z : (mid : Int) < (e : Int) := by omega
                  have hc32z : ¬ (e : Int) < (b : Int) := by omega
                  go_wp2
                  all_goals
                    go_end0
                    exact ⟨rfl, d, by omega, CUT.out.merged' HM7.out HM9.out hEs, S1.out⟩
                · have hc31z : ¬ (mid : Int) < (e : Int) := by omega
                  go_wp2
                  all_goals
                    go_end0
                    exact ⟨rfl, d, by omega, CUT.out.merged' HM7.out HM9.out hEs, S1.out⟩

end Go.Proofs.Qxb6614210a
