/-
  THE WALK OF slices.insertionSortCmpFunc at elements of k cells: after the guide's Derived/Shelf/SlSortCmp/InsertionK.lean; what it leaves is told as 'Merged' (sorted, stable).
-/
import Derived.Test.Qxb6614210aSortA
namespace Go.Proofs.Qxb6614210a
open Go.Shelf Go.RowKit Go.Lib Go.Sort Stab
variable {P : Program} {α : Type} [Inhabited α]

theorem get_of_fun {d : Array α} {f : Nat → α} (h : (fun p => d[p]!) = f) (p : Nat) : d[p]! = f p := congrFun h p

set_option maxHeartbeats 4000000 in
set_option maxRecDepth 1000000 in
theorem insertion_any {k : Nat} (L : Env P k) (enc : α → List Value) (key : α → Int) (cf : α → α → Int) (hcf : ∀ x y, cf x y < 0 ↔ key x < key y) (g : Nat) (cb : Array Value) (blk off cap a b : Nat) (d0 d : Array α) (w0 w : World)
    (eg : ∀ args w, (callFunc g args).run P w = .ok (.enter g args) w) (hcmp : CmpLays P g cb enc k cf blk off d0.size w0)
    (R : RowK enc k w0 blk off d0) (hs : d0.size = d.size) (S : SWK enc k w0 blk off d w) (hab : a ≤ b) (hb : b ≤ d.size) (hsz : d.size < 4611686018427387904) :
    Calls P 21 #[.slice (some ⟨blk, off, none⟩) d.size cap, .int .i64 a, .int .i64 b, .func (.func g) #[] cb] w fun e w' => e = .returned (.tuple #[]) ∧ ∃ d' : Array α, d'.size = d.size ∧ Merged key (fun p => d[p]!) (fun p => d'[p]!) a b ∧ SWK enc k w0 blk off d' w' := by
  have mixed := L.mixed; have t0 := L.t0; have a0 := L.a0; have z0 := L.z0; have v0 := L.v0; have t3 := L.t3; have a3 := L.a3; have z3 := L.z3; have v3 := L.v3; have t4 := L.t4; have a4 := L.a4; have z4 := L.z4; have v4 := L.v4; have t39 := L.t39; have a39 := L.a39; have z39 := L.z39; have v39 := L.v39; have t47 := L.t47; have a47 := L.a47; have z47 := L.z47; have v47 := L.v47
  have aE := L.aE; have zE := L.zE
  have FG := L.f21
  have HC : Aside _ := hcmp
  have HCF : Aside _ := hcf
  have S0 : Aside (SWK enc k w0 blk off d w) := S
  clear hcmp S L hcf
  go_enter FG, Try.ntmps21
  go_wp2
  go_loopg [8] (b - a) (fun g1 vi wr => ∃ (i : Nat) (dk : Array α), vi = .int .i64 i ∧ a < i ∧ i ≤ b + 1 ∧ b + 1 - i ≤ g1 + 1 ∧ dk.size = d.size ∧ Aside (SWK enc k w0 blk off dk wr) ∧ Aside (Merged key (fun p => d[p]!) (fun p => dk[p]!) a (min i b)))
  case atStart => exact ⟨a + 1, d, by go_num, by omega, by omega, by omega, rfl, S0, Merged.of_sorted (fun i j h1 h2 h3 => by omega)⟩
  case round =>
    clear S0
    obtain ⟨i, dk, rfl, hai, hib, hg1, hsk, S1, HM⟩ := hrel
    by_cases hlt : i < b
    · have hltz : (i : Int) < (b : Int) := by omega
      have HS : Aside (Sorted key (fun p => dk[p]!) a i) := by have := HM.out.srt; rwa [show min i b = i by omega] at this
      go_wp2
      -- the inner loop
      go_loopg [9] i (fun g2 vj wr2 => ∃ (j : Nat) (dj : Array α), vj = .int .i64 j ∧ a ≤ j ∧ j ≤ i ∧ j ≤ g2 ∧ dj.size = d.size ∧ Aside (SWK enc k w0 blk off dj wr2) ∧ Hid ((fun p => dj[p]!) = ro (fun p => dk[p]!) j i (i + 1)) ∧ Aside (∀ x, j ≤ x → x < i → key dk[i]! < key dk[x]!))
      case atStart => exact ⟨i, dk, rfl, by omega, Nat.le_refl _, Nat.le_refl _, hsk, S1, (ro_left _ _ _).symm, (fun x h1 h2 => by omega)⟩
      case round =>
        clear S1
        obtain ⟨j, dj, rfl, haj, hji, hg2, hsj, S1, HI, HX⟩ := hrel
        -- out of the inner loop
        have out : (j = a ∨ key dk[j - 1]! ≤ key dk[i]!) → Aside (Merged key (fun p => d[p]!) (fun p => dj[p]!) a (min (i + 1) b)) := fun hl => by
          have h1 := merged_right (f := fun p => dk[p]!) HS.out haj hji HX.out hl
          rw [← HI.out] at h1
          have h2 := HM.out.trans (c := i + 1) (by rw [show min i b = i by omega] at *; exact h1) (by omega) (by omega)
          rw [show min (i + 1) b = i + 1 by omega]; exact h2
        have OUT : Aside _ := out
        clear out
        by_cases hja : a < j
        · have hjaz : (a : Int) < (j : Int) := by omega
          obtain ⟨jp, rfl⟩ : ∃ jp, j = jp + 1 := ⟨j - 1, by omega⟩
          have xj : dj[jp + 1]! = dk[i]! := by rw [get_of_fun HI.out, ro_lo _ (Nat.le_refl _) (by omega), show jp + 1 + (i - (jp + 1)) = i by omega]
          have xp : dj[jp]! = dk[jp]! := by rw [get_of_fun HI.out, ro_out _ (by omega) (.inl (by omega))]
          have hjaz' : (a : Int) < (jp : Int) + 1 := by omega
          have hwp : IntKind.i64.wrap (jp : Int) = (jp : Int) := by rw [IntKind.wrap_i64]; omega
          have jz : (jp : Int) + 1 < (d.size : Int) := by omega
          have jz1 : (jp : Int) < (d.size : Int) := by omega
          have p0 : (0 : Int) ≤ (jp : Int) + 1 := by omega
          have e0 : ((jp : Int) + 1).toNat = jp + 1 := by omega
          obtain ⟨x24, hx24⟩ : ∃ x, x = dj[jp + 1]! := ⟨_, rfl⟩
          obtain ⟨y24, hy24⟩ : ∃ x, x = dj[jp]! := ⟨_, rfl⟩
          have l24a := S1.out.ld R (by omega) P (jp + 1) (by omega)
          have l24b := S1.out.ld R (by omega) P jp (by omega)
          rw [← hx24] at l24a
          rw [← hy24] at l24b
          have hc24 := S1.out.cmp HC.out (by omega) x24 y24
          have HXY : Hid (x24 = dk[i]! ∧ y24 = dk[jp]!) := ⟨hx24.trans xj, hy24.trans xp⟩
          clear hx24 hy24 xj xp
          by_cases hlv : cf x24 y24 < 0
          · have hd24 : decide (cf x24 y24 < 0) = true := decide_eq_true hlv
            go_wp2_with fail
            go_quiet_grown (first | (go_at_fn g; refine Calls.grown_of (hc24 _ _)))
            have S2 : Aside (SWK enc k w0 blk off dj (grow (wr.drewN nq) osq)) := S1.out.grown nq osq
            clear l24a l24b hc24 S1
            generalize grow (wr.drewN nq) osq = w2 at S2 ⊢
            clear nq osq
            go_wp2_with fail
            have S3 : Aside (SWK enc k w0 blk off (swp dj (jp + 1) jp) ((w2.drew.setCells blk (off + (jp + 1) * k) (enc dj[jp]!)).setCells blk (off + jp * k) (enc dj[jp + 1]!))) := S2.out.swapped R (jp + 1) jp (by omega) (by omega)
            have l44a := S2.out.ld1 R (by omega) P (jp + 1) (by omega)
            have l44b := S2.out.ld1 R (by omega) P jp (by omega)
            have s44a := S2.out.st1 R (by omega) P (jp + 1) (by omega) dj[jp]!
            have s44b := S2.out.st2 R (by omega) P (jp + 1) jp (by omega) (by omega) dj[jp]! dj[jp + 1]!
            have n44a : (enc dj[jp + 1]!).length = k := R.hk _
            have n44b : (enc dj[jp]!).length = k := R.hk _
            generalize enc dj[jp + 1]! = cI44 at S3 l44a s44b n44a
            generalize enc dj[jp]! = cJ44 at S3 l44b s44a s44b n44b
            clear S2
            go_wp2_with fail
            go_big_region_o
            clear l44a l44b s44a s44b
            generalize (w2.drew.setCells blk (off + (jp + 1) * k) cJ44).setCells blk (off + jp * k) cI44 = w3 at S3 ⊢
            go_wp2
            go_roundg jp
            case measure => omega
            case rel =>
              refine ⟨jp, swp dj (jp + 1) jp, by first | rfl | go_num | (congr 1; omega), by omega, by omega, Nat.le_refl _, by rw [size_swp]; exact hsj, S3, (show Hid _ from ?_), (show Aside _ from ?_)⟩
              · show _ = _
                rw [swp_fun dj (by omega) (by omega), HI.out]; exact ro_ex_right _ (by omega)
              · intro x h1 h2
                by_cases hx : x = jp
                · subst hx
                  have := (HCF.out x24 y24).1 hlv
                  rw [HXY.out.1, HXY.out.2] at this
                  exact this
                · exact HX.out x (by omega) h2
          · have hd24 : decide (cf x24 y24 < 0) = false := decide_eq_false hlv
            go_wp2_with fail
            go_quiet_grown (first | (go_at_fn g; refine Calls.grown_of (hc24 _ _)))
            have S2 : Aside (SWK enc k w0 blk off dj (grow (wr.drewN nq) osq)) := S1.out.grown nq osq
            clear l24a l24b hc24 S1
            generalize grow (wr.drewN nq) osq = w2 at S2 ⊢
            clear nq osq
            go_wp2
            go_roundg (b - (i + 1))
            case measure => omega
            case rel =>
              refine ⟨i + 1, dj, by go_num, by omega, by omega, by omega, hsj, S2, OUT.out (Or.inr ?_)⟩
              have : ¬ key x24 < key y24 := fun h => absurd ((HCF.out x24 y24).2 h) (by omega)
              rw [HXY.out.1, HXY.out.2] at this
              simp only [Nat.add_sub_cancel]; omega
        · have hjaz : decide ((j : Int) > (a : Int)) = false := decide_eq_false (by omega)
          have hjaz' : ¬ (a : Int) < (j : Int) := by omega
          have S2 : Aside (SWK enc k w0 blk off dj wr.drew) := S1.out.drew
          clear S1
          go_wp2_with fail
          go_big_region_o
          all_goals go_wp2
          go_roundg (b - (i + 1))
          case measure => omega
          case rel => exact ⟨i + 1, dj, by go_num, by omega, by omega, by omega, hsj, S2, OUT.out (Or.inl (by omega))⟩
    · have hltz : ¬ (i : Int) < (b : Int) := by omega
      go_wp2
      go_end0
      exact ⟨rfl, dk, hsk, (by have := HM.out; rwa [show min i b = b by omega] at this), S1.out⟩

end Go.Proofs.Qxb6614210a
