/-
  'Rows.FnErrAgainAfterMoreAgreesSaid', PROVED.
-/
import Derived.Test.Qxb6614210aAgain
import Derived.Test.Qxb6614210aReads
namespace Go.Proofs.Qxb6614210a
open Go.ChangeShapes Go.WideShapes Go.ChangeAt Go.RowKit

set_option maxHeartbeats 2000000 in
set_option maxRecDepth 100000 in
/-- A slice that is too long: true at once. -/
theorem again_long (a0 : Option Addr) (l0 c0 : Nat) (za : Nat → Int) (a1 : Option Addr) (l1 c1 : Nat) (sa : List ByteArray) (a2 : Option Addr) (l2 c2 : Nat) (a3 : Option Addr) (l3 c3 : Nat) (sb : List ByteArray) (w : World) (h0 : IntsIn w a0 l0 za) (h1 : StrsIn w a1 l1 sa) (h3 : StrsIn w a3 l3 sb)
    (hc : 4096 < l0 ∨ 4096 < l1 ∨ 4096 < l2 ∨ 4096 < l3) :
    Calls Try.prog 4 #[.slice a0 l0 c0, .slice a1 l1 c1, .slice a2 l2 c2, .slice a3 l3 c3] w fun e w' => e = .returned (.bool true) ∧ Below w.heap.size w w' := by
  have hb2 := bytes2_any a0 l0 c0 a1 l1 c1 sa a2 l2 c2 a3 l3 c3 sb w h0.small h1.toCells h3.toCells
  clear h0 h1 h3
  by_cases z0 : (4096 : Int) < (l0 : Int)
  · go_enter Try.func4, Try.ntmps4
    go_wp2_with fail
    refine hb2.mono ?_
    rintro e w' ⟨⟨bv, rfl⟩, hw⟩; subst w'
    cases bv <;> (go_wp2; go_ret; exact ⟨rfl, Below.refl _ _⟩)
  by_cases z1 : (4096 : Int) < (l1 : Int)
  · go_enter Try.func4, Try.ntmps4
    go_wp2_with fail
    refine hb2.mono ?_
    rintro e w' ⟨⟨bv, rfl⟩, hw⟩; subst w'
    cases bv <;> (go_wp2; go_ret; exact ⟨rfl, Below.refl _ _⟩)
  by_cases z2 : (4096 : Int) < (l2 : Int)
  · go_enter Try.func4, Try.ntmps4
    go_wp2_with fail
    refine hb2.mono ?_
    rintro e w' ⟨⟨bv, rfl⟩, hw⟩; subst w'
    cases bv <;> (go_wp2; go_ret; exact ⟨rfl, Below.refl _ _⟩)
  have z3 : (4096 : Int) < (l3 : Int) := by omega
  go_enter Try.func4, Try.ntmps4
  go_wp2_with fail
  refine hb2.mono ?_
  rintro e w' ⟨⟨bv, rfl⟩, hw⟩; subst w'
  cases bv <;> (go_wp2; go_ret; exact ⟨rfl, Below.refl _ _⟩)

theorem again_any (a0 : Option Addr) (l0 c0 : Nat) (za : Nat → Int) (a1 : Option Addr) (l1 c1 : Nat) (sa : List ByteArray) (a2 : Option Addr) (l2 c2 : Nat) (zb : Nat → Int) (a3 : Option Addr) (l3 c3 : Nat) (sb : List ByteArray) (w : World) (h0 : IntsIn w a0 l0 za) (h1 : StrsIn w a1 l1 sa) (h2 : IntsIn w a2 l2 zb) (h3 : StrsIn w a3 l3 sb) :
    Calls Try.prog 4 #[.slice a0 l0 c0, .slice a1 l1 c1, .slice a2 l2 c2, .slice a3 l3 c3] w fun e w' => e = .returned (.bool true) ∧ Below w.heap.size w w' := by
  by_cases hc : 4096 < l0 ∨ 4096 < l1 ∨ 4096 < l2 ∨ 4096 < l3
  · exact again_long a0 l0 c0 za a1 l1 c1 sa a2 l2 c2 a3 l3 c3 sb w h0 h1 h3 hc
  · by_cases e1 : min l0 l1 = 0
    · by_cases e2 : min l0 l1 + min l2 l3 = 0
      · exact again_zz a0 l0 c0 za a1 l1 c1 sa a2 l2 c2 zb a3 l3 c3 sb _ _ w h0 h1 h2 h3 rfl rfl (by omega) (by omega) (by omega) (by omega) e1 e2
      · exact again_zp a0 l0 c0 za a1 l1 c1 sa a2 l2 c2 zb a3 l3 c3 sb _ _ w h0 h1 h2 h3 rfl rfl (by omega) (by omega) (by omega) (by omega) e1 (by omega)
    · exact again_p a0 l0 c0 za a1 l1 c1 sa a2 l2 c2 zb a3 l3 c3 sb _ _ w h0 h1 h2 h3 rfl rfl (by omega) (by omega) (by omega) (by omega) (by omega) (by omega)

set_option maxRecDepth 100000 in
theorem again_lifted (os : Os) (started : os.Started) (H : Type) (enc : TypeId × Value → H) :
    ReturnsInHanded {} Try.checked os 4 .any (Rows.fnErrAgainAfterMoreAgreesSpec.pre6 enc Try.prog Try.f4 Rows.fnErrAgainAfterMoreAgreesRow.domain false) (Rows.fnErrAgainAfterMoreAgreesSpec.post enc Try.prog Try.f4 false true false false) := by
  refine returnsInHanded_of_change (C := Try.checked) own started (by kernel_rfl) Try.func4
    (ChangeSpec.witness6 (enc := enc) (C := Try.checked) false ⟨#[], #[.slice none 0 0, .slice none 0 0, .slice none 0 0, .slice none 0 0], []⟩ 8 (by kernel_rfl) (by kernel_rfl) (by kernel_rfl) (by kernel_rfl)) ?_
  intro W base args ds gs before hval0 hW hcnd _
  have hval : ∀ (j : Nat) t v, Try.f4.params[j]? = some t → args[j]? = some v → Value.okWide Try.prog W .any base t v := hval0
  have hW' := hW
  obtain ⟨p, q, hA0, hV, rfl, hfz, hnd⟩ := hW
  have hA : DataW.TrodAll enc Try.prog W 0 (fun _ => true) true Try.f4.params.toList args.toList ds p := hA0
  rw [Try.params4] at hA hval
  obtain ⟨v0, vs0, d0, ds0, p0, q0, hargs, rfl, rfl, h0, r0⟩ := trodAll_cons hA
  obtain ⟨v1, vs1, d1, ds1, p1, q1, rfl, rfl, rfl, h1, r1⟩ := trodAll_cons r0
  obtain ⟨v2, vs2, d2, ds2, p2, q2, rfl, rfl, rfl, h2, r2⟩ := trodAll_cons r1
  obtain ⟨v3, vs3, d3, ds3, p3, q3, rfl, rfl, rfl, h3, r3⟩ := trodAll_cons r2
  obtain ⟨rfl, rfl, rfl⟩ := trodAll_nil r3
  obtain rfl : args = #[v0, v1, v2, v3] := by cases args; simp_all
  obtain ⟨rfl, rfl⟩ := trodVars_none hV
  obtain ⟨a0, len0, cap0, rfl⟩ := okWide_slice Try.underlying22 (hval 0 22 v0 rfl rfl)
  obtain ⟨a1, len1, cap1, rfl⟩ := okWide_slice Try.underlying23 (hval 1 23 v1 rfl rfl)
  obtain ⟨a2, len2, cap2, rfl⟩ := okWide_slice Try.underlying22 (hval 2 22 v2 rfl rfl)
  obtain ⟨a3, len3, cap3, rfl⟩ := okWide_slice Try.underlying23 (hval 3 23 v3 rfl rfl)
  have k0 := h0
  have k1 := h1
  have k2 := h2
  have k3 := h3
  have lt0 : ∀ x ∈ p0, x.block < W.heap.size := by obtain ⟨m, hm⟩ := k0; exact DataW.trod_lt m _ _ _ hm
  have lt1 : ∀ x ∈ p1, x.block < W.heap.size := by obtain ⟨m, hm⟩ := k1; exact DataW.trod_lt m _ _ _ hm
  have lt2 : ∀ x ∈ p2, x.block < W.heap.size := by obtain ⟨m, hm⟩ := k2; exact DataW.trod_lt m _ _ _ hm
  have lt3 : ∀ x ∈ p3, x.block < W.heap.size := by obtain ⟨m, hm⟩ := k3; exact DataW.trod_lt m _ _ _ hm
  obtain ⟨z0, w0⟩ := reads_ints h0
  obtain ⟨z1, w1⟩ := reads_strs h1
  obtain ⟨z2, w2⟩ := reads_ints h2
  obtain ⟨z3, w3⟩ := reads_strs h3
  clear hA0 hval0
  refine (again_any a0 len0 cap0 z0 a1 len1 cap1 z1 a2 len2 cap2 z2 a3 len3 cap3 z3 W w0 w1 w2 w3).mono fun e W' ⟨he, bel⟩ => ?_
  subst he
  exact ⟨_, rfl, _, _, _, [], _, [], hW', trodAll_mk1 (shut_bool Try.underlying4 _), (trodAll_cons_mk (Below.trod laidOut (by kernel_rfl) (of_decide_eq_true (by kernel_rfl)) k0 bel lt0) (trodAll_cons_mk (Below.trod laidOut (by kernel_rfl) (of_decide_eq_true (by kernel_rfl)) k1 bel lt1) (trodAll_cons_mk (Below.trod laidOut (by kernel_rfl) (of_decide_eq_true (by kernel_rfl)) k2 bel lt2) (trodAll_cons_mk (Below.trod laidOut (by kernel_rfl) (of_decide_eq_true (by kernel_rfl)) k3 bel lt3) trodAll_mk0)))), rfl, bel.frame _, fun h => by cases h⟩

/-- THE STATEMENT. -/
theorem again_proved : Rows.FnErrAgainAfterMoreAgreesSaid :=
  OpenClaim.holds_of_wide 4 Try.f4 rfl rfl rfl rfl rfl rfl rfl ⟨rfl, rfl, rfl, rfl, rfl⟩ rfl rfl rfl rfl rfl (by kernel_rfl) Try.func4 (by kernel_rfl)
    (of_decide_eq_true (by kernel_rfl)) (by unfold Func.isWrapper; first | (rw [if_pos (by decide +kernel)]; kernel_rfl) | (rw [if_neg (by decide +kernel)]; exact ⟨rfl, rfl⟩))
    (fun os started H enc _ => again_lifted os started H enc)
#print axioms again_proved
end Go.Proofs.Qxb6614210a
