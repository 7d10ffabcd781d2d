/-
  count.
-/
import Derived.Test.Qxb6614386aRead
namespace Go.Proofs.Qxb6614386a
open Go.RowKit
set_option linter.unusedVariables false

/-- What is owed of a count. -/
def CntPost (db : Nat) (w : World) (r : CR) (e : Ending) (w' : World) : Prop :=
  e = .returned (.int .i64 r.n) ∧ Dec w' db r.failed r.failed r.rest ∧ Chg db w w'
theorem CntPost.dead {db : Nat} {w w' : World} {x : TypeId} {y : Value} (h : DecC w' db (.slice none 0 0) (.iface x y)) (hC : Chg db w w') : CntPost db w .dead (.returned (.int .i64 0)) w' :=
  ⟨rfl, Dec.dead h, hC⟩

set_option maxHeartbeats 4000000 in
set_option maxRecDepth 100000 in
theorem count_bad (db : Nat) (a : Option Addr) (n c : Nat) (m : Int) (ev : Value) (w : World) (h : DecC w db (.slice a n c) ev) (hb : Bad n 4 ev) :
    Calls Try.prog 24 #[.pointer (some ⟨db, 0, none⟩), .int .i64 m] w fun e w' => CntPost db w .dead e w' := by
  have hi := int32_bad db a n c ev w h hb
  clear h hb
  go_enter Try.func24, Try.ntmps24
  go_wp2_with fail
  refine hi.mono ?_
  rintro e w1 ⟨rfl, hC, x, y, hD⟩
  have H : Hid _ := hD
  obtain ⟨c0, c1, f0, f1, n2⟩ := hD
  go_wp2
  go_ret
  exact CntPost.dead H.out hC

theorem wrap_quo {l : Nat} {m : Int} (hm : 1 ≤ m) (hl : l ≤ maxLen) : wrap64 ((l : Int) / m) = (l : Int) / m := by
  have h0 : 0 ≤ (l : Int) / m := Int.ediv_nonneg (by omega) (by omega)
  have h1 : (l : Int) / m ≤ l := Int.ediv_le_self _ (by omega)
  unfold maxLen at hl
  unfold wrap64
  omega
theorem quo_lt {l k : Nat} {m : Int} (hm : 1 ≤ m) (hl : l ≤ maxLen) : (wrap64 ((l : Int) / m) < (k : Int)) ↔ ((l : Int) < (k : Int) * m) := by
  rw [wrap_quo hm hl]
  constructor
  · intro h
    exact Int.lt_mul_of_ediv_lt (by omega) h
  · intro h
    exact Int.ediv_lt_of_lt_mul (by omega) h

set_option maxHeartbeats 4000000 in
set_option maxRecDepth 100000 in
theorem count_good (db b o c : Nat) (xs : List Int) (m : Int) (w : World) (h : DecC w db (.slice (some ⟨b, o, none⟩) xs.length c) .nilIface) (h4 : 4 ≤ xs.length) (hn : xs.length ≤ c) (hc : c ≤ maxLen) (hx : IsBytes xs) (hcell : Cells w b o xs) (hN : NoInt w db) (hm : 1 ≤ m) (hm2 : m < 9223372036854775808) :
    Calls Try.prog 24 #[.pointer (some ⟨db, 0, none⟩), .int .i64 m] w fun e w' => CntPost db w (cntM xs m) e w' := by
  have hne : b ≠ db := fun e => by subst e; exact hN _ _ _ (hcell 0 (by omega))
  have hi := int32_ok db b o c xs w h h4 hn hc hx hcell hne
  have HC : Hid _ := hcell
  have HN : Hid _ := hN
  have HX : Hid _ := hx
  have hrg := be_range xs
  clear h hne hcell hN hx
  unfold cntM
  rw [if_neg (by omega)]
  have post : ∀ w1 o', Chg db w w1 → (4 < xs.length → o' = o + 4) → DecC w1 db (.slice (some ⟨b, o', none⟩) (xs.length - 4) (c - 4)) .nilIface → Dec w1 db false false (xs.drop 4) := by
    intro w1 o' hC ho' hD
    refine ⟨_, _, hD, .inr ⟨rfl, IsBytes.drop HX.out 4, b, o', c - 4, ?_, ?_, by omega, ?_⟩, .inl ⟨rfl, rfl⟩⟩
    · rw [List.length_drop]
    · rw [List.length_drop]; omega
    · exact (Cells.chg (xs := xs) HC.out HN.out hC).drop 4 ho'
  have POST : Hid _ := post
  clear post
  by_cases hB : be xs = -1
  · rw [if_pos hB]
    rw [hB] at hi
    clear hB hrg
    go_enter Try.func24, Try.ntmps24
    go_wp2_with fail
    refine hi.mono ?_
    rintro e w1 ⟨rfl, hC, o', ho', hD⟩
    have H : Hid _ := hD
    obtain ⟨c0, c1, f0, f1, n2⟩ := hD
    go_wp2
    go_ret
    exact ⟨rfl, POST.out w1 o' hC ho' H.out, hC⟩
  rw [if_neg hB]
  by_cases hNeg : be xs < 0
  · rw [if_pos hNeg]
    have hb1 : (be xs == -1) = false := by simp [hB]
    clear hB hrg
    generalize be xs = z at *
    go_enter Try.func24, Try.ntmps24
    go_wp2_with fail
    refine hi.mono ?_
    rintro e w1 ⟨rfl, hC, o', ho', hD⟩
    have hf := fail_live db _ w1 hD
    obtain ⟨c0, c1, f0, f1, n2⟩ := hD
    go_wp2_with fail
    refine hf.mono ?_
    rintro e w2 ⟨rfl, hC2, x, y, hD2⟩
    go_wp2
    go_ret
    exact CntPost.dead hD2 (hC.trans hC2)
  rw [if_neg hNeg]
  obtain ⟨k, hk⟩ : ∃ k : Nat, be xs = (k : Int) := ⟨(be xs).toNat, by omega⟩
  rw [hk] at hi ⊢
  rw [hk] at hrg
  clear hB hNeg hk
  have hb1 : ((k : Int) == -1) = false := by simp
  have hb2 : decide ((k : Int) < 0) = false := by simp
  have hm0 : (m == 0) = false := by simp; omega
  by_cases hD' : ((xs.length - 4 : Nat) : Int) < (k : Int) * m
  · rw [if_pos hD']
    have hq : decide (wrap64 (((xs.length - 4 : Nat) : Int) / m) < (k : Int)) = true := decide_eq_true ((quo_lt (l := xs.length - 4) (k := k) hm (by omega)).2 hD')
    clear hD'
    generalize hl : xs.length - 4 = l at *
    go_enter Try.func24, Try.ntmps24
    go_wp2_with fail
    refine hi.mono ?_
    rintro e w1 ⟨rfl, hC, o', ho', hD⟩
    have hf := fail_live db _ w1 hD
    obtain ⟨c0, c1, f0, f1, n2⟩ := hD
    go_wp2_with fail
    refine hf.mono ?_
    rintro e w2 ⟨rfl, hC2, x, y, hD2⟩
    go_wp2
    go_ret
    exact CntPost.dead hD2 (hC.trans hC2)
  · rw [if_neg hD']
    have hq : decide (wrap64 (((xs.length - 4 : Nat) : Int) / m) < (k : Int)) = false := decide_eq_false (mt (quo_lt (l := xs.length - 4) (k := k) hm (by omega)).1 hD')
    clear hD'
    generalize hl : xs.length - 4 = l at *
    go_enter Try.func24, Try.ntmps24
    go_wp2_with fail
    refine hi.mono ?_
    rintro e w1 ⟨rfl, hC, o', ho', hD⟩
    have H : Hid _ := hD
    obtain ⟨c0, c1, f0, f1, n2⟩ := hD
    go_wp2
    go_ret
    exact ⟨rfl, POST.out w1 o' hC ho' H.out, hC⟩

theorem count_any (db : Nat) (nl : Bool) (xs : List Int) (m : Int) (w : World) (h : Dec w db nl false xs) (hm : 1 ≤ m) (hm2 : m < 9223372036854775808) :
    Calls Try.prog 24 #[.pointer (some ⟨db, 0, none⟩), .int .i64 m] w fun e w' => CntPost db w (cntM xs m) e w' := by
  have hN := h.noInt
  obtain ⟨sv, ev, hD, hS, hE⟩ := h
  obtain rfl : ev = .nilIface := by
    rcases hE with ⟨_, rfl⟩ | ⟨hh, _⟩
    · rfl
    · cases hh
  by_cases h4 : xs.length < 4
  · have : cntM xs m = .dead := by unfold cntM; rw [if_pos h4]
    rw [this]
    rcases hS with ⟨_, rfl, rfl⟩ | ⟨hnl, _, b, o, c, rfl, _⟩
    · exact count_bad db none 0 0 m _ w hD (.inl ⟨rfl, by decide⟩)
    · exact count_bad db _ _ c m _ w hD (.inl ⟨rfl, h4⟩)
  · rcases hS with ⟨_, rfl, rfl⟩ | ⟨hnl, hx, b, o, c, rfl, h1, h2, h3⟩
    · exact absurd (by decide : ([] : List Int).length < 4) h4
    · exact count_good db b o c xs m w hD (by omega) h1 h2 hx h3 hN hm hm2

set_option maxHeartbeats 1000000 in
theorem zzcount_any (db : Nat) (nl : Bool) (xs : List Int) (m : Int) (w : World) (h : Dec w db nl false xs) (hm : 1 ≤ m) (hm2 : m < 9223372036854775808) :
    Calls Try.prog 20 #[.pointer (some ⟨db, 0, none⟩), .int .i64 m] w fun e w' => CntPost db w (cntM xs m) e w' := by
  have hi := count_any db nl xs m w h hm hm2
  clear h
  go_enter Try.func20, Try.ntmps20
  go_wp2_with fail
  refine hi.mono ?_
  rintro e w1 ⟨rfl, h1, h2⟩
  go_wp2
  go_ret
  exact ⟨rfl, h1, h2⟩

end Go.Proofs.Qxb6614386a
