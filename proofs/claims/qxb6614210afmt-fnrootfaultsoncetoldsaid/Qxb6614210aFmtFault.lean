/-
  THE WALKS THAT COME TO fmt: describe, Problemf, Text of a mapping.
-/
import Derived.Test.Qxb6614210aFmtFacts
import Derived.Deep.RegionHeld3
import Derived.Deep.QuietTactic
import Derived.BigQuiet
import Derived.RegionTactic
import Derived.BigRegion
namespace Go.Proofs.Qxb6614210aFmt
open Go.RowKit Go.Extern.Stop Go.Stop Go.Extern

def aMapping : ByteArray := ⟨#[97, 32, 109, 97, 112, 112, 105, 110, 103]⟩

set_option maxHeartbeats 1000000 in
set_option maxRecDepth 100000 in
theorem describe_map (nb : Nat) (tag value : ByteArray) (line : Int) (w : World) (h : NodeAt w nb 4 tag value line) :
    Calls Tryf.prog 17 #[.pointer (some ⟨nb, 0, none⟩)] w fun e w' => e = .returned (.string aMapping) ∧ w' = w := by
  have h0 := h.c0
  clear h
  go_enter Tryf.func17, Tryf.ntmps17
  go_wp2
  go_ret
  exact ⟨rfl, rfl⟩

/-- What Problemf's walk carries: the boxed value at vb, the node, the file, the map, the operands. -/
structure Sit (w : World) (vb nb fb mb sb : Nat) (tag value : ByteArray) (line : Int) (m : Obj) : Prop where
  v : w.heap[vb]? = some (.cells #[.pointer (some ⟨nb, 0, none⟩), .pointer (some ⟨fb, 0, none⟩), .string theFile] 28)
  node : NodeAt w nb 4 tag value line
  file : FileAt w fb (some ⟨nb, 0, none⟩) (.slice none 0 0) mb
  map : w.heap[mb]? = some m
  s0 : w.cell? ⟨sb, 0, none⟩ = some (.iface 9 (.string theFile))
  s1 : w.cell? ⟨sb, 1, none⟩ = some (.iface 9 (.string aMapping))
theorem Sit.drewN {w : World} {vb nb fb mb sb : Nat} {tag value : ByteArray} {line : Int} {m : Obj} (h : Sit w vb nb fb mb sb tag value line m) (n : Nat) : Sit (w.drewN n) vb nb fb mb sb tag value line m := ⟨h.v, ⟨h.node.c0, h.node.c2, h.node.c3, h.node.c10⟩, ⟨h.file.c0, h.file.c1, h.file.c2, h.file.f1⟩, h.map, h.s0, h.s1⟩
theorem Sit.drew {w : World} {vb nb fb mb sb : Nat} {tag value : ByteArray} {line : Int} {m : Obj} (h : Sit w vb nb fb mb sb tag value line m) : Sit w.drew vb nb fb mb sb tag value line m := h.drewN 1
/-- The map's block written anew. -/
theorem Sit.put {w : World} {vb nb fb mb sb : Nat} {tag value : ByteArray} {line : Int} {es : Array MapEntry} {k : Nat} (h : Sit w vb nb fb mb sb tag value line (.map es k)) (o : Obj) : Sit { w with heap := w.heap.setIfInBounds mb o } vb nb fb mb sb tag value line o := by
  have hlt : mb < w.heap.size := (Array.getElem?_eq_some_iff.1 h.map).1
  have ho : ∀ b, b ≠ mb → ({ w with heap := w.heap.setIfInBounds mb o } : World).heap[b]? = w.heap[b]? := fun b hb => by
    show (w.heap.setIfInBounds mb o)[b]? = _
    rw [Array.getElem?_setIfInBounds, if_neg (Ne.symm hb)]
  have hne : ∀ {b off : Nat} {v : Value}, w.cell? ⟨b, off, none⟩ = some v → b ≠ mb := fun hc e => by
    subst e; simp [World.cell?, h.map] at hc
  have hc : ∀ {b off : Nat} {v : Value}, w.cell? ⟨b, off, none⟩ = some v → ({ w with heap := w.heap.setIfInBounds mb o } : World).cell? ⟨b, off, none⟩ = some v := fun {b off v} hcv =>
    (World.cell?_of_block (w := w) (w' := { w with heap := w.heap.setIfInBounds mb o }) (a := ⟨b, off, none⟩) (ho b (hne hcv))).trans hcv
  have hvb : vb ≠ mb := fun e => by subst e; have h1 := h.v; rw [h.map] at h1; cases h1
  refine ⟨(ho vb hvb).trans h.v, ⟨hc h.node.c0, hc h.node.c2, hc h.node.c3, hc h.node.c10⟩, ⟨hc h.file.c0, hc h.file.c1, hc h.file.c2, ?_⟩, ?_, hc h.s0, hc h.s1⟩
  · exact (World.frozen?_of_block (w := w) (w' := { w with heap := w.heap.setIfInBounds mb o }) (a := ⟨fb, 1, none⟩) (ho fb (hne h.file.c0))).trans h.file.f1
  · show (w.heap.setIfInBounds mb o)[mb]? = _
    rw [Array.getElem?_setIfInBounds, if_pos rfl, if_pos hlt]

/-- All old blocks but a and b are as they were. -/
structure But (a b : Nat) (w w' : World) : Prop where
  os : w'.os = w.os
  tape : w'.tape = w.tape
  output : w'.output = w.output
  size : w.heap.size ≤ w'.heap.size
  block : ∀ k, k < w.heap.size → k ≠ a → k ≠ b → w'.heap[k]? = w.heap[k]?
theorem But.trans {a b : Nat} {w w' w'' : World} (h : But a b w w') (h' : But a b w' w'') : But a b w w'' :=
  ⟨h'.os.trans h.os, h'.tape.trans h.tape, h'.output.trans h.output, Nat.le_trans h.size h'.size, fun k h1 h2 h3 => (h'.block k (Nat.lt_of_lt_of_le h1 h.size) h2 h3).trans (h.block k h1 h2 h3)⟩
theorem But.of_below {a b : Nat} {w w' : World} (h : Below w.heap.size w w') : But a b w w' := ⟨h.os, h.tape, h.output, h.size, fun k h1 _ _ => h.block k h1⟩
theorem But.drewN (a b : Nat) (w : World) (n : Nat) : But a b w (w.drewN n) := ⟨rfl, rfl, rfl, Nat.le_refl _, fun _ _ _ _ => rfl⟩
theorem But.drew (a b : Nat) (w : World) : But a b w w.drew := ⟨rfl, rfl, rfl, Nat.le_refl _, fun _ _ _ _ => rfl⟩
theorem But.put (a b : Nat) (w : World) (o : Obj) : But a b w { w with heap := w.heap.setIfInBounds a o } := ⟨rfl, rfl, rfl, by simp, fun k _ h2 _ => by
  show (w.heap.setIfInBounds a o)[k]? = _
  rw [Array.getElem?_setIfInBounds, if_neg (Ne.symm h2)]⟩
theorem But.weaken {a b : Nat} {w w' : World} (h : But b b w w') : But a b w w' := ⟨h.os, h.tape, h.output, h.size, fun k h1 _ h3 => h.block k h1 h3 h3⟩
theorem But.below {a b B : Nat} {w w' : World} (h : But a b w w') (hB : B ≤ w.heap.size) (ha : B ≤ a) (hb : B ≤ b) : Below B w w' := ⟨h.os, h.tape, h.output, h.size, fun k hk => h.block k (by omega) (by omega) (by omega)⟩

theorem Tryf.info55 : (Tryf.prog.info? 55).map (fun i => (i.zero, i.size, i.bytes)) = some (some (.agg #[.int .i64 0, .string ⟨#[]⟩]), 2, 24) := by kernel_rfl

/-- Behind the first report. -/
structure Reported (w' : World) (B fb g cap : Nat) (line : Int) (m : ByteArray) : Prop where
  c1 : w'.cell? ⟨fb, 1, none⟩ = some (.slice (some ⟨g, 0, none⟩) 1 cap)
  f1 : w'.frozen? ⟨fb, 1, none⟩ = false
  own : w'.ownsRow B 55 2 (.slice (some ⟨g, 0, none⟩) 1 cap) 1 [.int .i64 line, .string m]

set_option maxHeartbeats 1000000 in
set_option maxRecDepth 100000 in
theorem report_first (a fb : Nat) (line : Int) (m : ByteArray) (w : World) (hcell : w.cell? ⟨fb, 1, none⟩ = some (.slice none 0 0)) (hfrz : w.frozen? ⟨fb, 1, none⟩ = false) :
    Calls Tryf.prog 21 #[.pointer (some ⟨fb, 0, none⟩), .int .i64 line, .string m] w fun e w' => e = .returned (.tuple #[]) ∧ But a fb w w' ∧ (∀ o, o ≠ 1 → w'.cell? ⟨fb, o, none⟩ = w.cell? ⟨fb, o, none⟩) ∧ ∃ g cap, Reported w' w.heap.size fb g cap line m := by
  obtain ⟨i0, hi, hz0, hz1, hz2⟩ := info_parts Tryf.info55
  have hlt : fb < w.heap.size := World.block_lt_of_cell? _ _ hcell
  have hown : w.ownsRow w.heap.size 55 2 (.slice none 0 0) 0 [] := World.ownsRow_nil _ _ _ _
  go_enter Tryf.func21, Tryf.ntmps21
  go_wp2_with (at_builtin; refine wpList_append_own _ rfl (.tmp 10) (.tmp 14) 48 rfl w.heap.size 55 i0 _ 2 24 Tryf.underlying48 hi hz0 hz1 hz2 rfl (by decide) _ _ _ rfl (hown.alloc _) ⟨w.heap.size, 0, none⟩ 1 1 [.int .i64 line, .string m] rfl rfl ?c1 ?c2 ?c3 ?c4 ?c5 ?_)
  case c1 =>
    intro j u hj
    match j, hj with
    | 0, hj => simp at hj; subst hj; simp [Addr.add]
    | 1, hj => simp at hj; subst hj; simp [Addr.add]
  case c2 => intro u hu; simp at hu; rcases hu with rfl | rfl <;> rfl
  case c3 => unfold maxLen; omega
  case c4 => omega
  case c5 => simp
  intro v' w1 hown1 hgrow hnn
  have hb : w1.heap[fb]? = w.heap[fb]? := (hgrow.block fb (by simp; omega) (by simp [Value.ownBlock])).trans (Below.heap_alloc w _ fb hlt)
  have hc1 : w1.cell? ⟨fb, 1, none⟩ = some (.slice none 0 0) := (World.cell?_of_block hb).trans hcell
  have hf1 : w1.frozen? ⟨fb, 1, none⟩ = false := (World.frozen?_of_block hb).trans hfrz
  have hbt : But a fb w w1 := ⟨hgrow.os, hgrow.tape, hgrow.output, Nat.le_trans (by simp) hgrow.size, fun k hk _ _ => (hgrow.block k (by simp; omega) (by simp [Value.ownBlock])).trans (Below.heap_alloc w _ k hk)⟩
  obtain ⟨g, cap, rfl⟩ : ∃ g cap, v' = .slice (some ⟨g, 0, none⟩) 1 cap := by
    rcases hown1.2 with ⟨h0, _⟩ | ⟨g, cap, cur, rfl, _⟩
    · exact absurd h0 hnn
    · exact ⟨g, cap, rfl⟩
  have HO : Hid (w1.ownsRow w.heap.size 55 2 (.slice (some ⟨g, 0, none⟩) 1 cap) 1 [.int .i64 line, .string m]) := hown1
  have HB : Hid _ := hb
  clear hgrow hb hown hcell hown1 hfrz hnn
  go_wp2
  go_end0
  refine ⟨rfl, ⟨hbt.os, hbt.tape, hbt.output, by simpa using hbt.size, fun k h1 h2 h3 => (Below.heap_setCell _ _ _ _ h3).trans (hbt.block k h1 h2 h3)⟩, fun o ho => ?_, g, cap, ⟨World.cell?_setCell_same' _ _ _ (by rw [hc1]; rfl), by simpa using hf1, ownsRow_setCell_below HO.out hlt _⟩⟩
  rw [World.cell?_setCell_other _ _ _ _ (by intro e; cases e; exact ho rfl)]
  exact World.cell?_of_block HB.out

/-- Behind the first fault. -/
structure Done (w : World) (nb fb mb g cap : Nat) (tag value : ByteArray) (line : Int) (m : ByteArray) : Prop where
  node : NodeAt w nb 4 tag value line
  file : FileAt w fb (some ⟨nb, 0, none⟩) (.slice (some ⟨g, 0, none⟩) 1 cap) mb
  map : w.heap[mb]? = some (once nb)
  own : w.ownsRow 0 55 2 (.slice (some ⟨g, 0, none⟩) 1 cap) 1 [.int .i64 line, .string m]
theorem Done.below {w w' : World} {nb fb mb g cap : Nat} {tag value : ByteArray} {line : Int} {m : ByteArray} (h : Done w nb fb mb g cap tag value line m) (hb : Below w.heap.size w w') : Done w' nb fb mb g cap tag value line m := by
  refine ⟨h.node.below hb (World.block_lt_of_cell? _ _ h.node.c0), h.file.below hb (World.block_lt_of_cell? _ _ h.file.c0), (hb.block mb (Array.getElem?_eq_some_iff.1 h.map).1).trans h.map, h.own.1, ?_⟩
  rcases h.own.2 with h0 | ⟨g', cap', cur, hv, hg, hh, r⟩
  · exact .inl h0
  · exact .inr ⟨g', cap', cur, hv, hg, (hb.block g' (Array.getElem?_eq_some_iff.1 hh).1).trans hh, r⟩
theorem owns_zero {w : World} {B : Nat} {e : TypeId} {size : Nat} {v : Value} {n : Nat} {xs : List Value} (h : w.ownsRow B e size v n xs) : w.ownsRow 0 e size v n xs := by
  refine ⟨h.1, ?_⟩
  rcases h.2 with h0 | ⟨g', cap', cur, hv, hg, r⟩
  · exact .inl h0
  · exact .inr ⟨g', cap', cur, hv, Nat.zero_le _, r⟩

set_option maxHeartbeats 2000000 in
set_option maxRecDepth 100000 in
/-- Problemf at a node that is not faulted yet. -/
theorem problemf_first (F : Interp) (nb fb mb sb : Nat) (tag value : ByteArray) (line : Int) (w : World) (hF : F.answers w.tape) (hN : NodeAt w nb 4 tag value line) (hA : FileAt w fb (some ⟨nb, 0, none⟩) (.slice none 0 0) mb)
    (hm : w.heap[mb]? = some (.map #[] 0)) (hs0 : w.cell? ⟨sb, 0, none⟩ = some (.iface 9 (.string theFile))) (hs1 : w.cell? ⟨sb, 1, none⟩ = some (.iface 9 (.string aMapping))) (d2 : nb ≠ fb) (d3 : mb ≠ fb) :
    Calls Tryf.prog 16 #[.agg #[.pointer (some ⟨nb, 0, none⟩), .pointer (some ⟨fb, 0, none⟩), .string theFile], .string fmtS, .slice (some ⟨sb, 0, none⟩) 2 2] w fun e w' => e = .returned (.tuple #[]) ∧ But mb fb w w' ∧ ∃ g cap m, Done w' nb fb mb g cap tag value line m := by
  have B1 : Below w.heap.size w (w.alloc (.cells #[.pointer (some ⟨nb, 0, none⟩), .pointer (some ⟨fb, 0, none⟩), .string theFile] 28)) := (Below.refl _ _).alloc (Nat.le_refl _) _
  have hnb := World.block_lt_of_cell? _ _ hN.c0
  have hfb := World.block_lt_of_cell? _ _ hA.c0
  have hsb := World.block_lt_of_cell? _ _ hs0
  have hmb : mb < w.heap.size := (Array.getElem?_eq_some_iff.1 hm).1
  simp only at hnb hfb hsb
  have T1 : Hid (Sit (w.alloc (.cells #[.pointer (some ⟨nb, 0, none⟩), .pointer (some ⟨fb, 0, none⟩), .string theFile] 28)) w.heap.size nb fb mb sb tag value line (.map #[] 0)) :=
    ⟨heap_alloc_new w _, hN.below B1 hnb, hA.below B1 hfb, (B1.block mb hmb).trans hm, (B1.cell (p := ⟨sb, 0, none⟩) hsb).trans hs0, (B1.cell (p := ⟨sb, 1, none⟩) hsb).trans hs1⟩
  have BT1 : Hid (But mb fb w (w.alloc (.cells #[.pointer (some ⟨nb, 0, none⟩), .pointer (some ⟨fb, 0, none⟩), .string theFile] 28))) := But.of_below B1
  have Z1 : Hid ((w.alloc (.cells #[.pointer (some ⟨nb, 0, none⟩), .pointer (some ⟨fb, 0, none⟩), .string theFile] 28)).heap.size = w.heap.size + 1) := World.size_alloc _ _
  clear hs0 hs1 hm hN hA B1
  go_enter Tryf.func16, Tryf.ntmps16
  go_wp2_with fail
  generalize w.alloc (.cells #[.pointer (some ⟨nb, 0, none⟩), .pointer (some ⟨fb, 0, none⟩), .string theFile] 28) = w1 at T1 BT1 Z1 ⊢
  generalize hvb : w.heap.size = vb at T1 Z1 hnb hfb hsb hmb ⊢
  have HVB : Hid _ := hvb
  clear hvb
  have cv0 := cell_of (o := 0) T1.out.v rfl
  have cv1 := cell_of (o := 1) T1.out.v rfl
  have cf2 := T1.out.file.c2
  have hlk := fun m => lookup_empty mb (some ⟨nb, 0, none⟩) (w1.drewN m) T1.out.map
  go_quiet (fail)
  have T2 : Hid (Sit (w1.drewN nq) vb nb fb mb sb tag value line (.map #[] 0)) := T1.out.drewN nq
  have BT2 : Hid (But mb fb w (w1.drewN nq)) := BT1.out.trans (But.drewN _ _ _ _)
  have Z2 : Hid ((w1.drewN nq).heap.size = vb + 1) := Z1.out
  clear cv0 cv1 cf2 hlk T1 BT1 Z1
  generalize w1.drewN nq = w2 at T2 BT2 Z2 ⊢
  clear nq
  go_wp2_with fail
  have T3 : Hid (Sit { w2.drew with heap := w2.drew.heap.setIfInBounds mb (once nb) } vb nb fb mb sb tag value line (once nb)) := T2.out.drew.put _
  have BT3 : Hid (But mb fb w { w2.drew with heap := w2.drew.heap.setIfInBounds mb (once nb) }) := BT2.out.trans ((But.drew _ _ _).trans (But.put _ _ _ _))
  have Z3 : Hid (({ w2.drew with heap := w2.drew.heap.setIfInBounds mb (once nb) } : World).heap.size = vb + 1) := by rw [← Z2.out]; exact Array.size_setIfInBounds
  have cv0 := cell_of (o := 0) T2.out.v rfl
  have cv1 := cell_of (o := 1) T2.out.v rfl
  have cf2 := T2.out.file.c2
  have hup := update_empty mb nb w2.drew T2.out.drew.map
  generalize ({ w2.drew with heap := w2.drew.heap.setIfInBounds mb (once nb) } : World) = w3 at T3 hup BT3 Z3
  go_region
  have hF3 : F.answers w3.tape := by rw [BT3.out.tape]; exact hF
  clear cv0 cv1 cf2 hup T2 BT2 Z2
  go_wp2_with fail
  have cv0 := cell_of (o := 0) T3.out.v rfl
  have cv1 := cell_of (o := 1) T3.out.v rfl
  have cn10 := T3.out.node.c10
  obtain ⟨msg, hrow⟩ := begun_row F sb theFile aMapping w3.drew hF3 T3.out.s0 T3.out.s1
  have hrep := report_first fb fb line msg w3.drew.drew T3.out.file.c1 T3.out.file.f1
  have h22 := call22
  have hg := guardF
  have hp := fmt0
  clear hF3
  go_region_held3 (fun w' => w'.cell? ⟨vb, 0, none⟩ = some (.pointer (some ⟨nb, 0, none⟩)) ∧ w'.cell? ⟨vb, 1, none⟩ = some (.pointer (some ⟨fb, 0, none⟩)) ∧ w'.cell? ⟨nb, 10, none⟩ = some (.int .i64 line)) (go_keep) (first | (refine rows_value nextTurns hrow ?_) | (go_at_call 21; refine hrep.mono ?_; rintro e w5 ⟨rfl, hb5, ho5, hR5⟩; have k0 := (World.cell?_of_block (w := w3.drew.drew) (a := ⟨vb, 0, none⟩) (hb5.block vb (by have := Z3.out; show vb < w3.heap.size; omega) (by omega) (by omega))).trans cv0; have k1 := (World.cell?_of_block (w := w3.drew.drew) (a := ⟨vb, 1, none⟩) (hb5.block vb (by have := Z3.out; show vb < w3.heap.size; omega) (by omega) (by omega))).trans cv1; have k2 := (World.cell?_of_block (w := w3.drew.drew) (a := ⟨nb, 10, none⟩) (hb5.block nb (by have := Z3.out; show nb < w3.heap.size; omega) d2 d2)).trans cn10))
  go_wp2
  go_end0
  obtain ⟨g, cap, hR⟩ := hR5
  have hz : w3.drew.drew.heap.size = vb + 1 := Z3.out
  have hn : ∀ o, w5.cell? ⟨nb, o, none⟩ = w3.cell? ⟨nb, o, none⟩ := fun o => World.cell?_of_block (w := w3.drew.drew) (a := ⟨nb, o, none⟩) (hb5.block nb (by omega) d2 d2)
  refine ⟨rfl, BT3.out.trans ((But.drew _ _ _).trans ((But.drew _ _ _).trans hb5.weaken)), g, cap, msg, ⟨⟨(hn 0).trans T3.out.node.c0, (hn 2).trans T3.out.node.c2, (hn 3).trans T3.out.node.c3, (hn 10).trans T3.out.node.c10⟩, ⟨(ho5 0 (by decide)).trans T3.out.file.c0, hR.c1, (ho5 2 (by decide)).trans T3.out.file.c2, hR.f1⟩, (hb5.block mb (by omega) d3 d3).trans T3.out.map, owns_zero hR.own⟩⟩

set_option maxHeartbeats 2000000 in
set_option maxRecDepth 100000 in
/-- Problemf at a node that is faulted already. -/
theorem problemf_again (nb fb mb sb g cap : Nat) (tag value : ByteArray) (line : Int) (m : ByteArray) (w : World) (hD : Done w nb fb mb g cap tag value line m) :
    Calls Tryf.prog 16 #[.agg #[.pointer (some ⟨nb, 0, none⟩), .pointer (some ⟨fb, 0, none⟩), .string theFile], .string fmtS, .slice (some ⟨sb, 0, none⟩) 2 2] w fun e w' => e = .returned (.tuple #[]) ∧ Below w.heap.size w w' := by
  have B1 : Hid (Below w.heap.size w (w.alloc (.cells #[.pointer (some ⟨nb, 0, none⟩), .pointer (some ⟨fb, 0, none⟩), .string theFile] 28))) := (Below.refl _ _).alloc (Nat.le_refl _) _
  have V1 : Hid ((w.alloc (.cells #[.pointer (some ⟨nb, 0, none⟩), .pointer (some ⟨fb, 0, none⟩), .string theFile] 28)).heap[w.heap.size]? = some (.cells #[.pointer (some ⟨nb, 0, none⟩), .pointer (some ⟨fb, 0, none⟩), .string theFile] 28)) := heap_alloc_new w _
  have D1 : Hid (Done (w.alloc (.cells #[.pointer (some ⟨nb, 0, none⟩), .pointer (some ⟨fb, 0, none⟩), .string theFile] 28)) nb fb mb g cap tag value line m) := hD.below B1.out
  clear hD
  go_enter Tryf.func16, Tryf.ntmps16
  go_wp2_with fail
  generalize w.alloc (.cells #[.pointer (some ⟨nb, 0, none⟩), .pointer (some ⟨fb, 0, none⟩), .string theFile] 28) = w1 at B1 V1 D1 ⊢
  have cv0 := cell_of (o := 0) V1.out rfl
  have cv1 := cell_of (o := 1) V1.out rfl
  have cf2 := D1.out.file.c2
  have hlk := fun m => lookup_once mb nb (w1.drewN m) D1.out.map
  go_quiet (fail)
  go_wp2
  (try simp only [Exit.inBlock, Exit.then]); refine bodyPost_ret (results_none rfl _ _ _) rfl ?_
  exact ⟨rfl, B1.out.trans ⟨rfl, rfl, rfl, Nat.le_refl _, fun _ _ => rfl⟩⟩

set_option maxHeartbeats 2000000 in
set_option maxRecDepth 100000 in
/-- Text of a mapping, for the first time. -/
theorem text_first (F : Interp) (nb fb mb : Nat) (tag value : ByteArray) (line : Int) (w : World) (hF : F.answers w.tape) (hN : NodeAt w nb 4 tag value line) (hA : FileAt w fb (some ⟨nb, 0, none⟩) (.slice none 0 0) mb)
    (hm : w.heap[mb]? = some (.map #[] 0)) (d2 : nb ≠ fb) (d3 : mb ≠ fb) :
    Calls Tryf.prog 10 #[.agg #[.pointer (some ⟨nb, 0, none⟩), .pointer (some ⟨fb, 0, none⟩), .string theFile]] w fun e w' => e = .returned (.string ⟨#[]⟩) ∧ But mb fb w w' ∧ ∃ g cap m, Done w' nb fb mb g cap tag value line m := by
  have B1 : Hid (Below w.heap.size w (w.alloc (.cells #[.pointer (some ⟨nb, 0, none⟩), .pointer (some ⟨fb, 0, none⟩), .string theFile] 28))) := (Below.refl _ _).alloc (Nat.le_refl _) _
  have V1 : Hid ((w.alloc (.cells #[.pointer (some ⟨nb, 0, none⟩), .pointer (some ⟨fb, 0, none⟩), .string theFile] 28)).heap[w.heap.size]? = some (.cells #[.pointer (some ⟨nb, 0, none⟩), .pointer (some ⟨fb, 0, none⟩), .string theFile] 28)) := heap_alloc_new w _
  have N1 : Hid (NodeAt (w.alloc (.cells #[.pointer (some ⟨nb, 0, none⟩), .pointer (some ⟨fb, 0, none⟩), .string theFile] 28)) nb 4 tag value line) := hN.below B1.out (World.block_lt_of_cell? _ _ hN.c0)
  have A1 : Hid (FileAt (w.alloc (.cells #[.pointer (some ⟨nb, 0, none⟩), .pointer (some ⟨fb, 0, none⟩), .string theFile] 28)) fb (some ⟨nb, 0, none⟩) (.slice none 0 0) mb) := hA.below B1.out (World.block_lt_of_cell? _ _ hA.c0)
  have M1 : Hid ((w.alloc (.cells #[.pointer (some ⟨nb, 0, none⟩), .pointer (some ⟨fb, 0, none⟩), .string theFile] 28)).heap[mb]? = some (.map #[] 0)) := (B1.out.block mb (Array.getElem?_eq_some_iff.1 hm).1).trans hm
  have HT : Hid ((w.alloc (.cells #[.pointer (some ⟨nb, 0, none⟩), .pointer (some ⟨fb, 0, none⟩), .string theFile] 28)).tape = w.tape) := rfl
  have hlt : nb < w.heap.size := World.block_lt_of_cell? _ _ hN.c0
  have cn0 := N1.out.c0
  clear hN hA hm
  go_enter Tryf.func10, Tryf.ntmps10
  go_wp2_with fail
  generalize w.alloc (.cells #[.pointer (some ⟨nb, 0, none⟩), .pointer (some ⟨fb, 0, none⟩), .string theFile] 28) = w1 at B1 V1 N1 A1 M1 HT cn0 ⊢
  generalize hvb : w.heap.size = vb at B1 V1 hlt ⊢
  have HVB : Hid _ := hvb
  clear hvb
  have cv0 := cell_of (o := 0) V1.out rfl
  have cv1 := cell_of (o := 1) V1.out rfl
  have cv2 := cell_of (o := 2) V1.out rfl
  have nd : NodeAt w1.drew nb 4 tag value line := ⟨N1.out.c0, N1.out.c2, N1.out.c3, N1.out.c10⟩
  have hdesc := describe_map nb tag value line w1.drew nd
  clear nd
  have BX : Hid (Below w1.heap.size w1 (w1.alloc (.cells #[.iface 9 (.string theFile), .iface 9 (.string aMapping)] 20)).drew) := ((Below.refl _ _).alloc (Nat.le_refl _) _).drew
  have hX : (w1.alloc (.cells #[.iface 9 (.string theFile), .iface 9 (.string aMapping)] 20)).drew.heap[w1.heap.size]? = some (.cells #[.iface 9 (.string theFile), .iface 9 (.string aMapping)] 20) := heap_alloc_new w1 _
  have hpf := problemf_first F nb fb mb w1.heap.size tag value line (w1.alloc (.cells #[.iface 9 (.string theFile), .iface 9 (.string aMapping)] 20)).drew (by rw [BX.out.tape, HT.out]; exact hF) (N1.out.below BX.out (World.block_lt_of_cell? _ _ N1.out.c0)) (A1.out.below BX.out (World.block_lt_of_cell? _ _ A1.out.c0)) ((BX.out.block mb (Array.getElem?_eq_some_iff.1 M1.out).1).trans M1.out) (cell_of hX rfl) (cell_of hX rfl) d2 d3
  have vlt : vb < w1.heap.size := (Array.getElem?_eq_some_iff.1 V1.out).1
  have dv1 : vb ≠ mb := fun e => by have h1 := V1.out; rw [e, M1.out] at h1; cases h1
  have dv2 : Hid (vb ≠ fb) := fun e => by have h1 := A1.out.c2; rw [← e, cv2] at h1; cases h1
  clear hX
  go_region_held3 (fun w' => w'.cell? ⟨vb, 0, none⟩ = some (.pointer (some ⟨nb, 0, none⟩)) ∧ w'.cell? ⟨vb, 1, none⟩ = some (.pointer (some ⟨fb, 0, none⟩)) ∧ w'.cell? ⟨vb, 2, none⟩ = some (.string theFile)) (go_keep) (first | (go_at_call 17; refine hdesc.mono ?_; rintro e w5 ⟨rfl, hw⟩; subst w5) | (go_at_call 16; refine hpf.mono ?_; rintro e w5 ⟨rfl, hb5, hD5⟩; have hk5 : w5.heap[vb]? = w1.heap[vb]? := (hb5.block vb (Nat.lt_of_lt_of_le vlt BX.out.size) dv1 dv2.out).trans (BX.out.block vb vlt); have k0 := (World.cell?_of_block (a := ⟨vb, 0, none⟩) hk5).trans cv0; have k1 := (World.cell?_of_block (a := ⟨vb, 1, none⟩) hk5).trans cv1; have k2 := (World.cell?_of_block (a := ⟨vb, 2, none⟩) hk5).trans cv2))
  go_wp2
  go_ret
  exact ⟨rfl, (But.of_below (by rw [HVB.out]; exact B1.out)).trans ((But.of_below BX.out).trans hb5), hD5⟩

set_option maxHeartbeats 2000000 in
set_option maxRecDepth 100000 in
/-- Text of a mapping, once more. -/
theorem text_again (nb fb mb g cap : Nat) (tag value : ByteArray) (line : Int) (m : ByteArray) (w : World) (hD : Done w nb fb mb g cap tag value line m) :
    Calls Tryf.prog 10 #[.agg #[.pointer (some ⟨nb, 0, none⟩), .pointer (some ⟨fb, 0, none⟩), .string theFile]] w fun e w' => e = .returned (.string ⟨#[]⟩) ∧ Below w.heap.size w w' := by
  have B1 : Hid (Below w.heap.size w (w.alloc (.cells #[.pointer (some ⟨nb, 0, none⟩), .pointer (some ⟨fb, 0, none⟩), .string theFile] 28))) := (Below.refl _ _).alloc (Nat.le_refl _) _
  have V1 : Hid ((w.alloc (.cells #[.pointer (some ⟨nb, 0, none⟩), .pointer (some ⟨fb, 0, none⟩), .string theFile] 28)).heap[w.heap.size]? = some (.cells #[.pointer (some ⟨nb, 0, none⟩), .pointer (some ⟨fb, 0, none⟩), .string theFile] 28)) := heap_alloc_new w _
  have D1 : Hid (Done (w.alloc (.cells #[.pointer (some ⟨nb, 0, none⟩), .pointer (some ⟨fb, 0, none⟩), .string theFile] 28)) nb fb mb g cap tag value line m) := hD.below B1.out
  have hlt : nb < w.heap.size := World.block_lt_of_cell? _ _ hD.node.c0
  have cn0 := D1.out.node.c0
  clear hD
  go_enter Tryf.func10, Tryf.ntmps10
  go_wp2_with fail
  generalize w.alloc (.cells #[.pointer (some ⟨nb, 0, none⟩), .pointer (some ⟨fb, 0, none⟩), .string theFile] 28) = w1 at B1 V1 D1 cn0 ⊢
  generalize hvb : w.heap.size = vb at B1 V1 hlt ⊢
  have HVB : Hid _ := hvb
  clear hvb
  have cv0 := cell_of (o := 0) V1.out rfl
  have cv1 := cell_of (o := 1) V1.out rfl
  have cv2 := cell_of (o := 2) V1.out rfl
  have nd : NodeAt w1.drew nb 4 tag value line := ⟨D1.out.node.c0, D1.out.node.c2, D1.out.node.c3, D1.out.node.c10⟩
  have hdesc := describe_map nb tag value line w1.drew nd
  clear nd
  have BX : Hid (Below w1.heap.size w1 (w1.alloc (.cells #[.iface 9 (.string theFile), .iface 9 (.string aMapping)] 20)).drew) := ((Below.refl _ _).alloc (Nat.le_refl _) _).drew
  have hpf := problemf_again nb fb mb w1.heap.size g cap tag value line m (w1.alloc (.cells #[.iface 9 (.string theFile), .iface 9 (.string aMapping)] 20)).drew (D1.out.below BX.out)
  have vlt : vb < w1.heap.size := (Array.getElem?_eq_some_iff.1 V1.out).1
  go_region_held3 (fun w' => w'.cell? ⟨vb, 0, none⟩ = some (.pointer (some ⟨nb, 0, none⟩)) ∧ w'.cell? ⟨vb, 1, none⟩ = some (.pointer (some ⟨fb, 0, none⟩)) ∧ w'.cell? ⟨vb, 2, none⟩ = some (.string theFile)) (go_keep) (first | (go_at_call 17; refine hdesc.mono ?_; rintro e w5 ⟨rfl, hw⟩; subst w5) | (go_at_call 16; refine hpf.mono ?_; rintro e w5 ⟨rfl, hb5⟩; have hk5 : w5.heap[vb]? = w1.heap[vb]? := (hb5.block vb (Nat.lt_of_lt_of_le vlt BX.out.size)).trans (BX.out.block vb vlt); have k0 := (World.cell?_of_block (a := ⟨vb, 0, none⟩) hk5).trans cv0; have k1 := (World.cell?_of_block (a := ⟨vb, 1, none⟩) hk5).trans cv1; have k2 := (World.cell?_of_block (a := ⟨vb, 2, none⟩) hk5).trans cv2))
  go_wp2
  go_ret
  refine ⟨rfl, ?_⟩
  rw [HVB.out]
  exact B1.out.trans ((BX.out.mono (Nat.le_of_lt vlt)).trans (hb5.mono (Nat.le_trans (Nat.le_of_lt vlt) BX.out.size)))

/-! ### Err at one problem: the sort has nothing to do -/
set_option maxHeartbeats 2000000 in
set_option maxRecDepth 100000 in
theorem insertion_one (g cap : Nat) (w : World) :
    Calls Tryf.prog 25 #[.slice (some ⟨g, 0, none⟩) 1 cap, .int .i64 0, .int .i64 1, .func (.func 19) #[] #[]] w fun e w' => e = .returned (.tuple #[]) ∧ w' = w := by
  go_enter Tryf.func25, Tryf.ntmps25
  go_wp2
  go_loop [8] (fun s => s = .int .i64 1) (fun _ => 0)
  case atStart => rfl
  case round =>
    subst hrel
    go_wp2
    go_end0
    exact ⟨rfl, rfl⟩

set_option maxHeartbeats 2000000 in
set_option maxRecDepth 100000 in
theorem stable_one (g cap : Nat) (w : World) :
    Calls Tryf.prog 23 #[.slice (some ⟨g, 0, none⟩) 1 cap, .int .i64 1, .func (.func 19) #[] #[]] w fun e w' => e = .returned (.tuple #[]) ∧ w' = w := by
  have hi := insertion_one g cap w
  go_enter Tryf.func23, Tryf.ntmps23
  go_wp2_with fail
  go_loop [7, 8] (fun s t => s = .int .i64 0 ∧ t = .int .i64 20) (fun _ _ => 0)
  case atStart => exact ⟨rfl, rfl⟩
  case round =>
    obtain ⟨rfl, rfl⟩ := hrel
    go_wp2_with (go_at_call 25; refine hi.mono ?_; rintro e w' ⟨rfl, hw⟩; subst w')
    go_loop [6, 7, 8, 9] (fun s _ _ _ => s = .int .i64 20) (fun _ _ _ _ => 0)
    case atStart => rfl
    case round =>
      subst hrel
      go_wp2
      go_end0
      exact ⟨rfl, rfl⟩

set_option maxHeartbeats 2000000 in
set_option maxRecDepth 100000 in
theorem sort_one (g cap : Nat) (w : World) :
    Calls Tryf.prog 18 #[.slice (some ⟨g, 0, none⟩) 1 cap, .func (.func 19) #[] #[]] w fun e w' => e = .returned (.tuple #[]) ∧ w' = w := by
  have hi := stable_one g cap w
  go_enter Tryf.func18, Tryf.ntmps18
  go_wp2_with (go_at_call 23; refine hi.mono ?_; rintro e w' ⟨rfl, hw⟩; subst w')
  go_end0
  exact ⟨rfl, rfl⟩

set_option maxHeartbeats 2000000 in
set_option maxRecDepth 100000 in
theorem err_one (fb g cap : Nat) (w : World) (hc : w.cell? ⟨fb, 1, none⟩ = some (.slice (some ⟨g, 0, none⟩) 1 cap)) :
    Calls Tryf.prog 12 #[.pointer (some ⟨fb, 0, none⟩)] w fun e w' => e = .returned (.iface 48 (.slice (some ⟨g, 0, none⟩) 1 cap)) ∧ w' = w := by
  have hi := sort_one g cap w
  go_enter Tryf.func12, Tryf.ntmps12
  go_wp2_with (go_at_call 18; refine hi.mono ?_; rintro e w' ⟨rfl, hw⟩; subst w')
  go_ret
  exact ⟨rfl, rfl⟩

theorem assert48 (W : World) (v : Value) : (Instr.typeAssert (.iface 48 v) 34 48 true).run Tryf.prog W = .ok (.tuple #[v, .bool true]) W := by kernel_rfl

set_option maxHeartbeats 2000000 in
set_option maxRecDepth 100000 in
theorem errCount_any (ao : Option Addr) (n cp : Nat) (w : World) :
    Calls Tryf.prog 14 #[.iface 48 (.slice ao n cp)] w fun e w' => e = .returned (.int .i64 n) ∧ w' = w := by
  have ha := assert48
  go_enter Tryf.func14, Tryf.ntmps14
  go_wp2
  go_ret
  exact ⟨rfl, rfl⟩

set_option maxHeartbeats 2000000 in
set_option maxRecDepth 100000 in
theorem errLine_zero (g cp : Nat) (x : Int) (w : World) (hc : w.cell? ⟨g, 0, none⟩ = some (.int .i64 x)) :
    Calls Tryf.prog 15 #[.iface 48 (.slice (some ⟨g, 0, none⟩) 1 cp), .int .i64 0] w fun e w' => e = .returned (.int .i64 x) ∧ w' = w := by
  have ha := assert48
  go_enter Tryf.func15, Tryf.ntmps15
  go_wp2
  go_ret
  exact ⟨rfl, rfl⟩
end Go.Proofs.Qxb6614210aFmt
