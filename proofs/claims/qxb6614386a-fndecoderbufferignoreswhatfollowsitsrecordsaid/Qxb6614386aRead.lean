/-
  THE READS: newDecoder, Rest, Failed, buffer, count.
-/
import Derived.Test.Qxb6614386aNum
namespace Go.Proofs.Qxb6614386a
open Go.RowKit
set_option linter.unusedVariables false

/-- What reading a buffer gives. -/
structure BR where
  gotNil : Bool
  got : List Int
  failed : Bool
  rest : List Int
  hi : Nat
def BR.dead : BR := ⟨true, [], true, [], 0⟩
def bufM (xs : List Int) : BR :=
  if xs.length < 4 then .dead
  else if be xs = -1 then ⟨true, [], false, xs.drop 4, 4⟩
  else if be xs < 0 then .dead
  else if xs.length - 4 < (be xs).toNat then .dead
  else ⟨false, (xs.drop 4).take (be xs).toNat, false, xs.drop (4 + (be xs).toNat), 4 + (be xs).toNat⟩

/-- What reading a count gives. -/
structure CR where
  n : Int
  failed : Bool
  rest : List Int
def CR.dead : CR := ⟨0, true, []⟩
def cntM (xs : List Int) (m : Int) : CR :=
  if xs.length < 4 then .dead
  else if be xs = -1 then ⟨0, false, xs.drop 4⟩
  else if be xs < 0 then .dead
  else if ((xs.length - 4 : Nat) : Int) < be xs * m then .dead
  else ⟨be xs, false, xs.drop 4⟩

theorem wrap32_range (x : Int) : -2147483648 ≤ wrap32 x ∧ wrap32 x < 2147483648 := by unfold wrap32; omega
theorem be_range (xs : List Int) : -2147483648 ≤ be xs ∧ be xs < 2147483648 := wrap32_range _

set_option maxHeartbeats 1000000 in
theorem newDecoder_any (v : Value) (nl : Bool) (xs : List Int) (w : World) (h : Sl w v nl xs) :
    Calls Try.prog 8 #[v] w fun e w' => e = .returned (.pointer (some ⟨w.heap.size, 0, none⟩)) ∧ Below w.heap.size w w' ∧ Dec w' w.heap.size nl false xs := by
  have H : Hid _ := h
  obtain ⟨a, n, c, rfl⟩ : ∃ a n c, v = .slice a n c := by
    rcases h with ⟨_, _, rfl⟩ | ⟨_, _, b, o, c, rfl, _⟩
    · exact ⟨_, _, _, rfl⟩
    · exact ⟨_, _, _, rfl⟩
  clear h
  go_enter Try.func8, Try.ntmps8
  go_wp2
  go_ret
  have hb : ∀ o : Obj, Below w.heap.size w (w.alloc o) := fun o => (Below.refl _ w).alloc (Nat.le_refl _) _
  refine ⟨rfl, hb _, _, _, ⟨?_, ?_, ?_, ?_, ?_⟩, Sl.of_below (nl := nl) (xs := xs) H.out (hb _), .inl ⟨rfl, rfl⟩⟩
  · rw [World.cell?_alloc_at _ _ _ _ rfl]; rfl
  · rw [World.cell?_alloc_at _ _ _ _ rfl]; rfl
  · rw [frozen?_alloc_cells]; simp [World.frozen?]
  · rw [frozen?_alloc_cells]; simp [World.frozen?]
  · intro i hi
    rw [World.cell?_alloc_at _ _ _ _ rfl]
    simp
    omega

set_option maxHeartbeats 1000000 in
theorem rest_any (db : Nat) (nl failed : Bool) (xs : List Int) (w : World) (h : Dec w db nl failed xs) :
    Calls Try.prog 11 #[.pointer (some ⟨db, 0, none⟩)] w fun e w' => (∃ v, e = .returned v ∧ Sl w v nl xs) ∧ w' = w := by
  obtain ⟨sv, ev, ⟨c0, c1, f0, f1, n2⟩, hS, hE⟩ := h
  have H : Hid _ := hS
  clear hS hE
  go_enter Try.func11, Try.ntmps11
  go_wp2
  go_ret
  exact ⟨⟨_, rfl, H.out⟩, rfl⟩

set_option maxHeartbeats 1000000 in
theorem failed_any (db : Nat) (nl failed : Bool) (xs : List Int) (w : World) (h : Dec w db nl failed xs) :
    Calls Try.prog 13 #[.pointer (some ⟨db, 0, none⟩)] w fun e w' => e = .returned (.bool failed) ∧ w' = w := by
  obtain ⟨sv, ev, ⟨c0, c1, f0, f1, n2⟩, hS, hE⟩ := h
  rcases hE with ⟨rfl, rfl⟩ | ⟨rfl, _, x, y, rfl⟩
  · go_enter Try.func13, Try.ntmps13
    go_wp2
    go_ret
    exact ⟨rfl, rfl⟩
  · go_enter Try.func13, Try.ntmps13
    go_wp2
    go_ret
    exact ⟨rfl, rfl⟩

/-- What is owed of a read buffer. -/
def BufPost (db : Nat) (w : World) (r : BR) (e : Ending) (w' : World) : Prop :=
  ∃ v, e = .returned v ∧ Sl w' v r.gotNil r.got ∧ Dec w' db r.failed r.failed r.rest ∧ Chg db w w'
theorem BufPost.dead {db : Nat} {w w' : World} {x : TypeId} {y : Value} (h : DecC w' db (.slice none 0 0) (.iface x y)) (hC : Chg db w w') : BufPost db w .dead (.returned (.slice none 0 0)) w' :=
  ⟨_, rfl, Sl.dead _, Dec.dead h, hC⟩

set_option maxHeartbeats 4000000 in
set_option maxRecDepth 100000 in
theorem buffer_bad (db : Nat) (a : Option Addr) (n c : Nat) (ev : Value) (w : World) (h : DecC w db (.slice a n c) ev) (hb : Bad n 4 ev) :
    Calls Try.prog 23 #[.pointer (some ⟨db, 0, none⟩)] w fun e w' => BufPost db w .dead e w' := by
  have hi := int32_bad db a n c ev w h hb
  clear h hb
  go_enter Try.func23, Try.ntmps23
  go_wp2_with fail
  refine hi.mono ?_
  rintro e w1 ⟨rfl, hC, x, y, hD⟩
  have H : Hid _ := hD
  obtain ⟨c0, c1, f0, f1, n2⟩ := hD
  go_wp2
  go_ret
  exact BufPost.dead H.out hC

set_option maxHeartbeats 4000000 in
set_option maxRecDepth 100000 in
theorem buffer_good (db b o c : Nat) (xs : List Int) (w : World) (h : DecC w db (.slice (some ⟨b, o, none⟩) xs.length c) .nilIface) (h4 : 4 ≤ xs.length) (hn : xs.length ≤ c) (hc : c ≤ maxLen) (hx : IsBytes xs) (hcell : Cells w b o xs) (hN : NoInt w db) :
    Calls Try.prog 23 #[.pointer (some ⟨db, 0, none⟩)] w fun e w' => BufPost db w (bufM xs) e w' := by
  have hne : b ≠ db := fun e => by subst e; exact hN _ _ _ (hcell 0 (by omega))
  have hi := int32_ok db b o c xs w h h4 hn hc hx hcell hne
  have HC : Hid _ := hcell
  have HN : Hid _ := hN
  have HX : Hid _ := hx
  have hrg := be_range xs
  clear h hne hcell hN hx
  unfold bufM
  rw [if_neg (by omega)]
  by_cases hB : be xs = -1
  · rw [if_pos hB]
    rw [hB] at hi
    clear hB hrg
    go_enter Try.func23, Try.ntmps23
    go_wp2_with fail
    refine hi.mono ?_
    rintro e w1 ⟨rfl, hC, o', ho', hD⟩
    have H : Hid _ := hD
    obtain ⟨c0, c1, f0, f1, n2⟩ := hD
    go_wp2
    go_ret
    refine ⟨_, rfl, Sl.dead _, ⟨_, _, H.out, .inr ⟨rfl, IsBytes.drop HX.out 4, b, o', c - 4, ?_, ?_, by omega, ?_⟩, .inl ⟨rfl, rfl⟩⟩, hC⟩
    · rw [List.length_drop]
    · rw [List.length_drop]; omega
    · exact (Cells.chg (xs := xs) HC.out HN.out hC).drop 4 ho'
  rw [if_neg hB]
  by_cases hNeg : be xs < 0
  · rw [if_pos hNeg]
    have hb1 : (be xs == -1) = false := by simp [hB]
    clear hB hrg
    generalize be xs = z at *
    go_enter Try.func23, Try.ntmps23
    go_wp2_with fail
    refine hi.mono ?_
    rintro e w1 ⟨rfl, hC, o', ho', hD⟩
    have hf := fail_live db _ w1 hD
    obtain ⟨c0, c1, f0, f1, n2⟩ := hD
    go_wp2_with fail
    refine hf.mono ?_
    rintro e w2 ⟨rfl, hC2, x, y, hD2⟩
    go_wp2
    go_ret
    exact BufPost.dead hD2 (hC.trans hC2)
  rw [if_neg hNeg]
  obtain ⟨k, hk⟩ : ∃ k : Nat, be xs = (k : Int) := ⟨(be xs).toNat, by omega⟩
  rw [hk] at hi ⊢
  rw [hk] at hrg
  rw [Int.toNat_natCast]
  clear hB hNeg hk
  have hb1 : ((k : Int) == -1) = false := by simp
  have hb2 : ¬ (k : Int) < 0 := by omega
  by_cases hD' : xs.length - 4 < k
  · rw [if_pos hD']
    go_enter Try.func23, Try.ntmps23
    go_wp2_with fail
    refine hi.mono ?_
    rintro e w1 ⟨rfl, hC, o', ho', hD⟩
    have hf := take_bad db _ _ _ k _ w1 hD (.inl ⟨rfl, hD'⟩)
    obtain ⟨c0, c1, f0, f1, n2⟩ := hD
    go_wp2_with fail
    refine hf.mono ?_
    rintro e w2 ⟨rfl, hC2, x, y, hD2⟩
    go_wp2
    go_ret
    exact BufPost.dead hD2 (hC.trans hC2)
  · rw [if_neg hD']
    go_enter Try.func23, Try.ntmps23
    go_wp2_with fail
    refine hi.mono ?_
    rintro e w1 ⟨rfl, hC, o', ho', hD⟩
    have hf := take_ok db b o' _ _ k w1 hD (by omega) (by omega) (by omega)
    have H : Hid _ := hD
    obtain ⟨c0, c1, f0, f1, n2⟩ := hD
    go_wp2_with fail
    refine hf.mono ?_
    rintro e w2 ⟨rfl, hC2, o2, ho2, hD2⟩
    go_wp2
    go_ret
    have hc1 : Cells w1 b o xs := Cells.chg (xs := xs) HC.out HN.out hC
    have hcd : Cells w1 b o' (xs.drop 4) := hc1.drop 4 ho'
    have hN1 : NoInt w1 db := Dec.noInt (nl := false) (failed := false) (xs := xs.drop 4) ⟨_, _, H.out, .inr ⟨rfl, IsBytes.drop HX.out 4, b, o', c - 4, by rw [List.length_drop], by rw [List.length_drop]; omega, by omega, hcd⟩, .inl ⟨rfl, rfl⟩⟩
    have hcd2 : Cells w2 b o' (xs.drop 4) := hcd.chg hN1 hC2
    refine ⟨_, rfl, .inr ⟨rfl, (IsBytes.drop HX.out 4).take k, b, o', k, ?_, ?_, by omega, hcd2.take k⟩, ⟨_, _, hD2, .inr ⟨rfl, IsBytes.drop HX.out (4 + k), b, o2, c - 4 - k, ?_, ?_, by omega, ?_⟩, .inl ⟨rfl, rfl⟩⟩, hC.trans hC2⟩
    · rw [List.length_take, List.length_drop, Nat.min_eq_left (by omega)]; rfl
    · rw [List.length_take]; omega
    · rw [List.length_drop]; congr 1; omega
    · rw [List.length_drop]; omega
    · rw [← List.drop_drop]
      exact hcd2.drop k (by rw [List.length_drop]; exact ho2)

theorem buffer_any (db : Nat) (nl failed : Bool) (xs : List Int) (w : World) (h : Dec w db nl failed xs) :
    Calls Try.prog 23 #[.pointer (some ⟨db, 0, none⟩)] w fun e w' => BufPost db w (bufM xs) e w' := by
  have hN := h.noInt
  obtain ⟨sv, ev, hD, hS, hE⟩ := h
  by_cases h4 : xs.length < 4
  · have : bufM xs = .dead := by unfold bufM; rw [if_pos h4]
    rw [this]
    rcases hS with ⟨_, rfl, rfl⟩ | ⟨hnl, _, b, o, c, rfl, _⟩
    · refine buffer_bad db none 0 0 ev w hD ?_
      rcases hE with ⟨_, rfl⟩ | ⟨_, _, hh⟩
      · exact .inl ⟨rfl, by decide⟩
      · exact .inr hh
    · refine buffer_bad db _ _ c ev w hD ?_
      rcases hE with ⟨_, rfl⟩ | ⟨_, hh, _⟩
      · exact .inl ⟨rfl, h4⟩
      · rw [hnl] at hh; cases hh
  · rcases hS with ⟨_, rfl, rfl⟩ | ⟨hnl, hx, b, o, c, rfl, h1, h2, h3⟩
    · exact absurd (by decide : ([] : List Int).length < 4) h4
    · rcases hE with ⟨_, rfl⟩ | ⟨_, hh, _⟩
      · exact buffer_good db b o c xs w hD (by omega) h1 h2 hx h3 hN
      · rw [hnl] at hh; cases hh

set_option maxHeartbeats 1000000 in
theorem zzbuffer_any (db : Nat) (nl failed : Bool) (xs : List Int) (w : World) (h : Dec w db nl failed xs) :
    Calls Try.prog 10 #[.pointer (some ⟨db, 0, none⟩)] w fun e w' => BufPost db w (bufM xs) e w' := by
  have hi := buffer_any db nl failed xs w h
  clear h
  go_enter Try.func10, Try.ntmps10
  go_wp2_with fail
  refine hi.mono ?_
  rintro e w1 ⟨v, rfl, h1, h2, h3⟩
  go_wp2
  go_ret
  exact ⟨v, rfl, h1, h2, h3⟩

end Go.Proofs.Qxb6614386a
