/-
  THE WALK OF slices.symMergeCmpFunc: the second short way (one element on the right).
-/
import Derived.Test.Qxb6614210aSortC
namespace Go.Proofs.Qxb6614210a
open Go.Shelf Go.RowKit Go.Lib Go.Sort Stab
variable {P : Program} {α : Type} [Inhabited α]

set_option maxHeartbeats 4000000 in
set_option maxRecDepth 1000000 in
theorem symMerge_right {k : Nat} (L : Env P k) (enc : α → List Value) (key : α → Int) (cf : α → α → Int) (hcf : ∀ x y, cf x y < 0 ↔ key x < key y) (g : Nat) (cb : Array Value) (blk off cap a m : Nat) (d0 d : Array α) (w0 w : World)
    (eg : ∀ args w, (callFunc g args).run P w = .ok (.enter g args) w) (hcmp : CmpLays P g cb enc k cf blk off d0.size w0)
    (R : RowK enc k w0 blk off d0) (hs : d0.size = d.size) (S : SWK enc k w0 blk off d w) (ham : a + 1 < m) (hb : m + 1 ≤ d.size) (hsz : d.size < 4611686018427387904)
    (h1 : Sorted key (fun p => d[p]!) a m) :
    Calls P 22 #[.slice (some ⟨blk, off, none⟩) d.size cap, .int .i64 a, .int .i64 m, .int .i64 ((m : Int) + 1), .func (.func g) #[] cb] w fun e w' => e = .returned (.tuple #[]) ∧ ∃ d' : Array α, d'.size = d.size ∧ Merged key (fun p => d[p]!) (fun p => d'[p]!) a (m + 1) ∧ SWK enc k w0 blk off d' w' := by
  have mixed := L.mixed; have t0 := L.t0; have a0 := L.a0; have z0 := L.z0; have v0 := L.v0; have t3 := L.t3; have a3 := L.a3; have z3 := L.z3; have v3 := L.v3; have t4 := L.t4; have a4 := L.a4; have z4 := L.z4; have v4 := L.v4; have t39 := L.t39; have a39 := L.a39; have z39 := L.z39; have v39 := L.v39; have t47 := L.t47; have a47 := L.a47; have z47 := L.z47; have v47 := L.v47; have t53 := L.t53; have a53 := L.a53; have z53 := L.z53; have v53 := L.v53
  have u3 := run_underlying L.t3; have u53 := run_underlying L.t53
  have aE := L.aE; have zE := L.zE
  have FG := L.f22
  have HC : Aside _ := hcmp
  have HCF : Aside _ := hcf
  have H1 : Aside _ := h1
  have S0 : Aside (SWK enc k w0 blk off d w) := S
  clear hcmp S L hcf h1
  have e1 : ((m : Int) - (a : Int) == 1) = false := by simp; omega
  have e2 : ((m : Int) + 1 - (m : Int) == 1) = true := by simp; omega
  go_enter FG, Try.ntmps22
  go_wp2
  go_loopg [14, 15] (m - a) (fun kx s t wr => ∃ (i j : Nat), s = .int .i64 i ∧ t = .int .i64 j ∧ a ≤ i ∧ i ≤ j ∧ j ≤ m ∧ j - i ≤ kx ∧ Aside (SWK enc k w0 blk off d wr) ∧ Aside ((i = a ∨ key d[i - 1]! ≤ key d[m]!) ∧ (j = m ∨ key d[m]! < key d[j]!)))
  case atStart => exact ⟨a, m, rfl, rfl, Nat.le_refl _, by omega, Nat.le_refl _, by omega, S0, (⟨.inl rfl, .inl rfl⟩ : (a = a ∨ key d[a - 1]! ≤ key d[m]!) ∧ (m = m ∨ key d[m]! < key d[m]!))⟩
  case round =>
    clear S0
    obtain ⟨i, j, rfl, rfl, hai, hij, hjb, hkx, S1, HB⟩ := hrel
    by_cases hlt : i < j
    · have hltz : (i : Int) < (j : Int) := by omega
      go_wp2_with fail
      have ea24 : ((m : Int)).toNat = m := by omega
      have pa24 : (0 : Int) ≤ (m : Int) := by omega
      have ba24 : (m : Int) < (d.size : Int) := by omega
      have ra24 : IntKind.i64.wrap ((m : Int)) = (m : Int) := by rw [IntKind.wrap_i64]; omega
      have ec24 : (((i : Int) + (j : Int)) / 2).toNat = (i + j) / 2 := by omega
      have pc24 : (0 : Int) ≤ ((i : Int) + (j : Int)) / 2 := by omega
      have bc24 : ((i : Int) + (j : Int)) / 2 < (d.size : Int) := by omega
      have rc24 : IntKind.i64.wrap (((i : Int) + (j : Int)) / 2) = ((i : Int) + (j : Int)) / 2 := by rw [IntKind.wrap_i64]; omega
      obtain ⟨x24, hx24⟩ : ∃ x, x = d[m]! := ⟨_, rfl⟩
      obtain ⟨y24, hy24⟩ : ∃ x, x = d[(i + j) / 2]! := ⟨_, rfl⟩
      have l24a := S1.out.ld R (by omega) P (m) (by omega)
      have l24b := S1.out.ld R (by omega) P ((i + j) / 2) (by omega)
      rw [← hx24] at l24a
      rw [← hy24] at l24b
      have hc24 := S1.out.cmp HC.out (by omega) x24 y24
      have HXY24 : Hid (x24 = d[m]! ∧ y24 = d[(i + j) / 2]!) := ⟨hx24, hy24⟩
      clear hx24 hy24
      by_cases hv24 : cf x24 y24 < 0
      · have HK24 : Hid (key d[m]! < key d[(i + j) / 2]!) := by have := (HCF.out x24 y24).1 hv24; rw [HXY24.out.1, HXY24.out.2] at this; exact this
        have hd24 : decide (cf x24 y24 < 0) = true := decide_eq_true hv24
        go_wp2_with fail
        go_quiet_grown (first | (go_at_fn g; refine Calls.grown_of (hc24 _ _)))
        have S2 : Aside (SWK enc k w0 blk off d (grow (wr.drewN nq) osq)) := S1.out.grown nq osq
        clear l24a l24b hc24 S1
        generalize grow (wr.drewN nq) osq = w2 at S2 ⊢
        clear nq osq
        go_wp2
        go_roundg ((i + j) / 2 - i)
        case measure => omega
        case rel => exact ⟨i, (i + j) / 2, rfl, by rw [show ((i : Int) + (j : Int)) / 2 = (((i + j) / 2 : Nat) : Int) by omega], hai, by omega, by omega, Nat.le_refl _, S2, (show Aside _ from ⟨HB.out.1, .inr HK24.out⟩)⟩
      · have HK24 : Hid (key d[(i + j) / 2]! ≤ key d[m]!) := by
          have : ¬ key x24 < key y24 := fun h => hv24 ((HCF.out x24 y24).2 h)
          rw [HXY24.out.1, HXY24.out.2] at this
          show _ ≤ _
          omega
        have hd24 : decide (cf x24 y24 < 0) = false := decide_eq_false hv24
        go_wp2_with fail
        go_quiet_grown (first | (go_at_fn g; refine Calls.grown_of (hc24 _ _)))
        have S2 : Aside (SWK enc k w0 blk off d (grow (wr.drewN nq) osq)) := S1.out.grown nq osq
        clear l24a l24b hc24 S1
        generalize grow (wr.drewN nq) osq = w2 at S2 ⊢
        clear nq osq
        go_wp2
        go_roundg (j - ((i + j) / 2 + 1))
        case measure => omega
        case rel =>
          refine ⟨(i + j) / 2 + 1, j, by rw [show ((i : Int) + (j : Int)) / 2 + 1 = (((i + j) / 2 + 1 : Nat) : Int) by omega], rfl, by omega, by omega, hjb, Nat.le_refl _, S2, (show Aside _ from ⟨.inr ?_, HB.out.2⟩)⟩
          rw [Nat.add_sub_cancel]; exact HK24.out
    · have hltz : ¬ (i : Int) < (j : Int) := by omega
      obtain rfl : i = j := by omega
      have HM : Aside (Merged key (fun p => d[p]!) (ro (fun p => d[p]!) i m (m + 1)) a (m + 1)) := by
        refine merged_right H1.out hai hjb (fun x h1 h2 => ?_) HB.out.1
        rcases HB.out.2 with e | h
        · omega
        · have := Sorted.le (key := key) (f := fun p => d[p]!) H1.out (i := i) (j := x) hai h1 h2
          show key d[m]! < key d[x]!
          have h3 : key d[i]! ≤ key d[x]! := this
          omega
      clear HB H1
      go_wp2_with fail
      go_loopg [17] (m - a) (fun kx s wr => ∃ (q : Nat) (dk : Array α), s = .int .i64 q ∧ i ≤ q ∧ q ≤ m ∧ q - i ≤ kx ∧ dk.size = d.size ∧ Aside (SWK enc k w0 blk off dk wr) ∧ Hid ((fun p => dk[p]!) = ro (fun p => d[p]!) q m (m + 1)))
      case atStart => exact ⟨m, d, rfl, hjb, Nat.le_refl _, by omega, rfl, S1, (ro_left _ _ _).symm⟩
      case round =>
        clear S1
        obtain ⟨q, dk, rfl, haq, hqi, hkq, hds, S1, HE⟩ := hrel
        by_cases hq : i < q
        · obtain ⟨t, rfl⟩ : ∃ t, q = t + 1 := ⟨q - 1, by omega⟩
          have hqz : (i : Int) < (t : Int) + 1 := by omega
          have hwp : IntKind.i64.wrap (t : Int) = (t : Int) := by rw [IntKind.wrap_i64]; omega
          go_wp2_with fail
          have ea44 : ((t : Int) + 1).toNat = t + 1 := by omega
          have pa44 : (0 : Int) ≤ (t : Int) + 1 := by omega
          have ba44 : (t : Int) + 1 < (d.size : Int) := by omega
          have ra44 : IntKind.i64.wrap ((t : Int) + 1) = (t : Int) + 1 := by rw [IntKind.wrap_i64]; omega
          have ec44 : ((t : Int)).toNat = t := by omega
          have pc44 : (0 : Int) ≤ (t : Int) := by omega
          have bc44 : (t : Int) < (d.size : Int) := by omega
          have rc44 : IntKind.i64.wrap ((t : Int)) = (t : Int) := by rw [IntKind.wrap_i64]; omega
          have S2 : Aside (SWK enc k w0 blk off (swp dk (t + 1) (t)) ((wr.drew.setCells blk (off + (t + 1) * k) (enc dk[t]!)).setCells blk (off + (t) * k) (enc dk[t + 1]!))) := S1.out.swapped R (t + 1) (t) (by omega) (by omega)
          have l44a := S1.out.ld1 R (by omega) P (t + 1) (by omega)
          have l44b := S1.out.ld1 R (by omega) P (t) (by omega)
          have s44a := S1.out.st1 R (by omega) P (t + 1) (by omega) dk[t]!
          have s44b := S1.out.st2 R (by omega) P (t + 1) (t) (by omega) (by omega) dk[t]! dk[t + 1]!
          have n44a : (enc dk[t + 1]!).length = k := R.hk _
          have n44b : (enc dk[t]!).length = k := R.hk _
          generalize enc dk[t + 1]! = cI44 at S2 l44a s44b n44a
          generalize enc dk[t]! = cJ44 at S2 l44b s44a s44b n44b
          clear S1
          go_wp2_with fail
          go_big_region_o
          clear l44a l44b s44a s44b
          generalize (wr.drew.setCells blk (off + (t + 1) * k) cJ44).setCells blk (off + (t) * k) cI44 = w2 at S2 ⊢
          go_wp2
          go_roundg (t - i)
          case measure => omega
          case rel =>
            refine ⟨t, swp dk (t + 1) t, by first | rfl | go_num | (congr 1; omega), by omega, by omega, Nat.le_refl _, by rw [size_swp]; exact hds, S2, (show Hid _ from ?_)⟩
            show _ = _
            rw [swp_fun dk (by omega) (by omega), HE.out]; exact ro_ex_right _ hqi
        · have hqz : ¬ (i : Int) < (q : Int) := by omega
          obtain rfl : i = q := by omega
          go_wp2
          (try simp only [Exit.inBlock, Exit.then]); refine bodyPost_ret (results_none rfl _ _ _) rfl ?_
          refine ⟨rfl, dk, hds, ?_, S1.out⟩
          rw [HE.out]; exact HM.out

end Go.Proofs.Qxb6614210a
