/-
  THE WALK OF slices.symMergeCmpFunc: the two short ways (one element on the left; one on the right).
-/
import Derived.Test.Qxb6614210aSortB
namespace Go.Proofs.Qxb6614210a
open Go.Shelf Go.RowKit Go.Lib Go.Sort Stab
variable {P : Program} {α : Type} [Inhabited α]

set_option maxHeartbeats 4000000 in
set_option maxRecDepth 1000000 in
theorem symMerge_left {k : Nat} (L : Env P k) (enc : α → List Value) (key : α → Int) (cf : α → α → Int) (hcf : ∀ x y, cf x y < 0 ↔ key x < key y) (g : Nat) (cb : Array Value) (blk off cap a b : Nat) (d0 d : Array α) (w0 w : World)
    (eg : ∀ args w, (callFunc g args).run P w = .ok (.enter g args) w) (hcmp : CmpLays P g cb enc k cf blk off d0.size w0)
    (R : RowK enc k w0 blk off d0) (hs : d0.size = d.size) (S : SWK enc k w0 blk off d w) (hmb : a + 1 < b) (hb : b ≤ d.size) (hsz : d.size < 4611686018427387904)
    (h2 : Sorted key (fun p => d[p]!) (a + 1) b) :
    Calls P 22 #[.slice (some ⟨blk, off, none⟩) d.size cap, .int .i64 a, .int .i64 ((a : Int) + 1), .int .i64 b, .func (.func g) #[] cb] w fun e w' => e = .returned (.tuple #[]) ∧ ∃ d' : Array α, d'.size = d.size ∧ Merged key (fun p => d[p]!) (fun p => d'[p]!) a b ∧ SWK enc k w0 blk off d' w' := by
  have mixed := L.mixed; have t0 := L.t0; have a0 := L.a0; have z0 := L.z0; have v0 := L.v0; have t3 := L.t3; have a3 := L.a3; have z3 := L.z3; have v3 := L.v3; have t4 := L.t4; have a4 := L.a4; have z4 := L.z4; have v4 := L.v4; have t39 := L.t39; have a39 := L.a39; have z39 := L.z39; have v39 := L.v39; have t47 := L.t47; have a47 := L.a47; have z47 := L.z47; have v47 := L.v47; have t53 := L.t53; have a53 := L.a53; have z53 := L.z53; have v53 := L.v53
  have u3 := run_underlying L.t3; have u53 := run_underlying L.t53
  have aE := L.aE; have zE := L.zE
  have FG := L.f22
  have HC : Aside _ := hcmp
  have HCF : Aside _ := hcf
  have H2 : Aside _ := h2
  have S0 : Aside (SWK enc k w0 blk off d w) := S
  clear hcmp S L hcf h2
  have e1 : ((a : Int) + 1 - (a : Int) == 1) = true := by simp; omega
  go_enter FG, Try.ntmps22
  go_wp2
  go_loopg [10, 11] (b - a) (fun kx s t wr => ∃ (i j : Nat), s = .int .i64 i ∧ t = .int .i64 j ∧ a + 1 ≤ i ∧ i ≤ j ∧ j ≤ b ∧ j - i ≤ kx ∧ Aside (SWK enc k w0 blk off d wr) ∧ Aside ((i = a + 1 ∨ key d[i - 1]! < key d[a]!) ∧ (j = b ∨ key d[a]! ≤ key d[j]!)))
  case atStart => exact ⟨a + 1, b, by go_num, rfl, Nat.le_refl _, by omega, Nat.le_refl _, by omega, S0, (⟨.inl rfl, .inl rfl⟩ : (a + 1 = a + 1 ∨ key d[a + 1 - 1]! < key d[a]!) ∧ (b = b ∨ key d[a]! ≤ key d[b]!))⟩
  case round =>
    clear S0
    obtain ⟨i, j, rfl, rfl, hai, hij, hjb, hkx, S1, HB⟩ := hrel
    by_cases hlt : i < j
    · have hltz : (i : Int) < (j : Int) := by omega
      go_wp2_with fail
      have ea24 : (((i : Int) + (j : Int)) / 2).toNat = (i + j) / 2 := by omega
      have pa24 : (0 : Int) ≤ ((i : Int) + (j : Int)) / 2 := by omega
      have ba24 : ((i : Int) + (j : Int)) / 2 < (d.size : Int) := by omega
      have ra24 : IntKind.i64.wrap (((i : Int) + (j : Int)) / 2) = ((i : Int) + (j : Int)) / 2 := by rw [IntKind.wrap_i64]; omega
      have ec24 : ((a : Int)).toNat = a := by omega
      have pc24 : (0 : Int) ≤ (a : Int) := by omega
      have bc24 : (a : Int) < (d.size : Int) := by omega
      have rc24 : IntKind.i64.wrap ((a : Int)) = (a : Int) := by rw [IntKind.wrap_i64]; omega
      obtain ⟨x24, hx24⟩ : ∃ x, x = d[(i + j) / 2]! := ⟨_, rfl⟩
      obtain ⟨y24, hy24⟩ : ∃ x, x = d[a]! := ⟨_, rfl⟩
      have l24a := S1.out.ld R (by omega) P ((i + j) / 2) (by omega)
      have l24b := S1.out.ld R (by omega) P (a) (by omega)
      rw [← hx24] at l24a
      rw [← hy24] at l24b
      have hc24 := S1.out.cmp HC.out (by omega) x24 y24
      have HXY24 : Hid (x24 = d[(i + j) / 2]! ∧ y24 = d[a]!) := ⟨hx24, hy24⟩
      clear hx24 hy24
      by_cases hv24 : cf x24 y24 < 0
      · have HK24 : Hid (key d[(i + j) / 2]! < key d[a]!) := by have := (HCF.out x24 y24).1 hv24; rw [HXY24.out.1, HXY24.out.2] at this; exact this
        have hd24 : decide (cf x24 y24 < 0) = true := decide_eq_true hv24
        go_wp2_with fail
        go_quiet_grown (first | (go_at_fn g; refine Calls.grown_of (hc24 _ _)))
        have S2 : Aside (SWK enc k w0 blk off d (grow (wr.drewN nq) osq)) := S1.out.grown nq osq
        clear l24a l24b hc24 S1
        generalize grow (wr.drewN nq) osq = w2 at S2 ⊢
        clear nq osq
        go_wp2
        go_roundg (j - ((i + j) / 2 + 1))
        case measure => omega
        case rel =>
          refine ⟨(i + j) / 2 + 1, j, by rw [show ((i : Int) + (j : Int)) / 2 + 1 = (((i + j) / 2 + 1 : Nat) : Int) by omega], rfl, by omega, by omega, hjb, Nat.le_refl _, S2, (show Aside _ from ⟨.inr ?_, HB.out.2⟩)⟩
          rw [Nat.add_sub_cancel]; exact HK24.out
      · have HK24 : Hid (key d[a]! ≤ key d[(i + j) / 2]!) := by
          have : ¬ key x24 < key y24 := fun h => hv24 ((HCF.out x24 y24).2 h)
          rw [HXY24.out.1, HXY24.out.2] at this
          show _ ≤ _
          omega
        have hd24 : decide (cf x24 y24 < 0) = false := decide_eq_false hv24
        go_wp2_with fail
        go_quiet_grown (first | (go_at_fn g; refine Calls.grown_of (hc24 _ _)))
        have S2 : Aside (SWK enc k w0 blk off d (grow (wr.drewN nq) osq)) := S1.out.grown nq osq
        clear l24a l24b hc24 S1
        generalize grow (wr.drewN nq) osq = w2 at S2 ⊢
        clear nq osq
        go_wp2
        go_roundg ((i + j) / 2 - i)
        case measure => omega
        case rel => exact ⟨i, (i + j) / 2, rfl, by rw [show ((i : Int) + (j : Int)) / 2 = (((i + j) / 2 : Nat) : Int) by omega], hai, by omega, by omega, Nat.le_refl _, S2, (show Aside _ from ⟨HB.out.1, .inr HK24.out⟩)⟩
    · have hltz : ¬ (i : Int) < (j : Int) := by omega
      obtain rfl : i = j := by omega
      have HM : Aside (Merged key (fun p => d[p]!) (ro (fun p => d[p]!) a (a + 1) i) a b) := by
        refine merged_left H2.out hai hjb (fun y h1 h2 => ?_) HB.out.2
        rcases HB.out.1 with e | h
        · omega
        · have := Sorted.le (key := key) (f := fun p => d[p]!) H2.out (i := y) (j := i - 1) h1 (by omega) (by omega)
          show key d[y]! < key d[a]!
          have h3 : key d[y]! ≤ key d[i - 1]! := this
          omega
      clear HB H2
      go_wp2_with fail
      go_loopg [13] (b - a) (fun kx s wr => ∃ (q : Nat) (dk : Array α), s = .int .i64 q ∧ a ≤ q ∧ q + 1 ≤ i ∧ i - q ≤ kx ∧ dk.size = d.size ∧ Aside (SWK enc k w0 blk off dk wr) ∧ Hid ((fun p => dk[p]!) = ro (fun p => d[p]!) a (a + 1) (q + 1)))
      case atStart => exact ⟨a, d, rfl, Nat.le_refl _, hai, by omega, rfl, S1, (ro_right _ _ _).symm⟩
      case round =>
        clear S1
        obtain ⟨q, dk, rfl, haq, hqi, hkq, hds, S1, HE⟩ := hrel
        by_cases hq : q + 1 < i
        · have hqz : (q : Int) < (i : Int) - 1 := by omega
          go_wp2_with fail
          have ea44 : ((q : Int)).toNat = q := by omega
          have pa44 : (0 : Int) ≤ (q : Int) := by omega
          have ba44 : (q : Int) < (d.size : Int) := by omega
          have ra44 : IntKind.i64.wrap ((q : Int)) = (q : Int) := by rw [IntKind.wrap_i64]; omega
          have ec44 : ((q : Int) + 1).toNat = q + 1 := by omega
          have pc44 : (0 : Int) ≤ (q : Int) + 1 := by omega
          have bc44 : (q : Int) + 1 < (d.size : Int) := by omega
          have rc44 : IntKind.i64.wrap ((q : Int) + 1) = (q : Int) + 1 := by rw [IntKind.wrap_i64]; omega
          have S2 : Aside (SWK enc k w0 blk off (swp dk (q) (q + 1)) ((wr.drew.setCells blk (off + (q) * k) (enc dk[q + 1]!)).setCells blk (off + (q + 1) * k) (enc dk[q]!))) := S1.out.swapped R (q) (q + 1) (by omega) (by omega)
          have l44a := S1.out.ld1 R (by omega) P (q) (by omega)
          have l44b := S1.out.ld1 R (by omega) P (q + 1) (by omega)
          have s44a := S1.out.st1 R (by omega) P (q) (by omega) dk[q + 1]!
          have s44b := S1.out.st2 R (by omega) P (q) (q + 1) (by omega) (by omega) dk[q + 1]! dk[q]!
          have n44a : (enc dk[q]!).length = k := R.hk _
          have n44b : (enc dk[q + 1]!).length = k := R.hk _
          generalize enc dk[q]! = cI44 at S2 l44a s44b n44a
          generalize enc dk[q + 1]! = cJ44 at S2 l44b s44a s44b n44b
          clear S1
          go_wp2_with fail
          go_big_region_o
          clear l44a l44b s44a s44b
          generalize (wr.drew.setCells blk (off + (q) * k) cJ44).setCells blk (off + (q + 1) * k) cI44 = w2 at S2 ⊢
          go_wp2
          go_roundg (i - (q + 1))
          case measure => omega
          case rel =>
            refine ⟨q + 1, swp dk q (q + 1), by go_num, by omega, by omega, Nat.le_refl _, by rw [size_swp]; exact hds, S2, (show Hid _ from ?_)⟩
            show _ = _
            rw [swp_fun dk (by omega) (by omega), HE.out]; exact ro_ex_left _ haq
        · have hqz : ¬ (q : Int) < (i : Int) - 1 := by omega
          obtain rfl : i = q + 1 := by omega
          go_wp2
          (try simp only [Exit.inBlock, Exit.then]); refine bodyPost_ret (results_none rfl _ _ _) rfl ?_
          refine ⟨rfl, dk, hds, ?_, S1.out⟩
          rw [HE.out]; exact HM.out

end Go.Proofs.Qxb6614210a
