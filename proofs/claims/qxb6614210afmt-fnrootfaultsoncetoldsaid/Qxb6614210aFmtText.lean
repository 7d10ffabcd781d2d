/-
  THE WALK OF FnRootLineAndText: it never comes to fmt.
-/
import Derived.Test.Qxb6614210aFmtRows
import Derived.WalkKit
import Derived.WalkSpells
import Derived.WalkLawsBesides
import Derived.Carry
namespace Go.Proofs.Qxb6614210aFmt
open Go.RowKit

def theFile : ByteArray := ⟨#[116, 104, 101, 32, 102, 105, 108, 101]⟩

set_option maxHeartbeats 1000000 in
set_option maxRecDepth 100000 in
theorem root_any (fb : Nat) (nd : Option Addr) (w : World) (hc : w.cell? ⟨fb, 0, none⟩ = some (.pointer nd)) :
    Calls Tryf.prog 8 #[.pointer (some ⟨fb, 0, none⟩)] w fun e w' => e = .returned (.agg #[.pointer nd, .pointer (some ⟨fb, 0, none⟩), .string theFile]) ∧ Below w.heap.size w w' := by
  have hlt := World.block_lt_of_cell? _ _ hc
  simp only at hlt
  go_enter Tryf.func8, Tryf.ntmps8
  go_wp2
  refine bodyPost_ret (v := .agg #[.pointer nd, .pointer (some ⟨fb, 0, none⟩), .string theFile]) (by simp [results, Tryf.results8, go_sem, theFile]) rfl ⟨rfl, ?_⟩
  repeat (first | exact Below.refl _ _ | refine Below.drew ?_ | refine Below.setCell ?_ (by simp; omega) _ | refine Below.alloc ?_ (by simp; omega) _ | refine Below.setCell ?_ (by simp) _ | refine Below.alloc ?_ (by simp) _)

/-- Block fb holds a file: its root, its problems; the map's block. -/
structure FileAt (w : World) (fb : Nat) (nd : Option Addr) (v : Value) (mb : Nat) : Prop where
  c0 : w.cell? ⟨fb, 0, none⟩ = some (.pointer nd)
  c1 : w.cell? ⟨fb, 1, none⟩ = some v
  c2 : w.cell? ⟨fb, 2, none⟩ = some (.map (some mb))
  f1 : w.frozen? ⟨fb, 1, none⟩ = false
/-- Block nb holds a node of the YAML library: kind, tag, value, line. -/
structure NodeAt (w : World) (nb : Nat) (kind : Int) (tag value : ByteArray) (line : Int) : Prop where
  c0 : w.cell? ⟨nb, 0, none⟩ = some (.int .u32 kind)
  c2 : w.cell? ⟨nb, 2, none⟩ = some (.string tag)
  c3 : w.cell? ⟨nb, 3, none⟩ = some (.string value)
  c10 : w.cell? ⟨nb, 10, none⟩ = some (.int .i64 line)

theorem FileAt.below {w w' : World} {fb : Nat} {nd : Option Addr} {v : Value} {mb B : Nat} (h : FileAt w fb nd v mb) (hb : Below B w w') (hB : fb < B) : FileAt w' fb nd v mb :=
  ⟨(hb.cell (p := ⟨fb, 0, none⟩) hB).trans h.c0, (hb.cell (p := ⟨fb, 1, none⟩) hB).trans h.c1, (hb.cell (p := ⟨fb, 2, none⟩) hB).trans h.c2, (hb.frozen (p := ⟨fb, 1, none⟩) hB).trans h.f1⟩
theorem NodeAt.below {w w' : World} {nb : Nat} {kind : Int} {tag value : ByteArray} {line : Int} {B : Nat} (h : NodeAt w nb kind tag value line) (hb : Below B w w') (hB : nb < B) : NodeAt w' nb kind tag value line :=
  ⟨(hb.cell (p := ⟨nb, 0, none⟩) hB).trans h.c0, (hb.cell (p := ⟨nb, 2, none⟩) hB).trans h.c2, (hb.cell (p := ⟨nb, 3, none⟩) hB).trans h.c3, (hb.cell (p := ⟨nb, 10, none⟩) hB).trans h.c10⟩

theorem heap2 (w : World) (o1 o2 : Obj) : ((w.alloc o1).alloc o2).heap[w.heap.size]? = some o1 ∧ ((w.alloc o1).alloc o2).heap[w.heap.size + 1]? = some o2 := by
  constructor
  · show ((w.heap.push o1).push o2)[w.heap.size]? = _
    rw [Array.getElem?_push, if_neg (by simp), Array.getElem?_push, if_pos rfl]
  · show ((w.heap.push o1).push o2)[w.heap.size + 1]? = _
    rw [Array.getElem?_push, if_pos (by simp)]
theorem heap3 (w : World) (o1 o2 o3 : Obj) : (((w.alloc o1).alloc o2).alloc o3).heap[w.heap.size]? = some o1 ∧ (((w.alloc o1).alloc o2).alloc o3).heap[w.heap.size + 1]? = some o2 ∧ (((w.alloc o1).alloc o2).alloc o3).heap[w.heap.size + 2]? = some o3 := by
  refine ⟨?_, ?_, ?_⟩
  · show (((w.heap.push o1).push o2).push o3)[w.heap.size]? = _
    rw [Array.getElem?_push, if_neg (by simp; omega), Array.getElem?_push, if_neg (by simp), Array.getElem?_push, if_pos rfl]
  · show (((w.heap.push o1).push o2).push o3)[w.heap.size + 1]? = _
    rw [Array.getElem?_push, if_neg (by simp), Array.getElem?_push, if_pos (by simp)]
  · show (((w.heap.push o1).push o2).push o3)[w.heap.size + 2]? = _
    rw [Array.getElem?_push, if_pos (by simp)]
theorem cell_of {w : World} {b o : Nat} {cur : Array Value} {e : TypeId} {fr : Nat × Nat} {v : Value} (h : w.heap[b]? = some (.cells cur e fr)) (hv : cur[o]? = some v) : w.cell? ⟨b, o, none⟩ = some v := by
  simp [World.cell?, h, hv]
theorem frz_of {w : World} {b o : Nat} {cur : Array Value} {e : TypeId} (h : w.heap[b]? = some (.cells cur e (0, 0))) : w.frozen? ⟨b, o, none⟩ = false := by
  simp [World.frozen?, h]

def tagStr : ByteArray := ⟨#[33, 33, 115, 116, 114]⟩
def tagMap : ByteArray := ⟨#[33, 33, 109, 97, 112]⟩

set_option maxHeartbeats 1000000 in
set_option maxRecDepth 100000 in
theorem newFile_any (w : World) :
    Calls Tryf.prog 7 #[] w fun e w' => e = .returned (.pointer (some ⟨w.heap.size + 1, 0, none⟩)) ∧ FileAt w' (w.heap.size + 1) none (.slice none 0 0) w.heap.size ∧ w'.heap[w.heap.size]? = some (.map #[] 0) ∧ w'.heap.size = w.heap.size + 2 ∧ Below w.heap.size w w' := by
  have hmk := @run_makeMap Tryf.prog
  go_enter Tryf.func7, Tryf.ntmps7
  go_wp2
  go_ret
  obtain ⟨h1, h2⟩ := heap2 w (.map #[] 0) (.cells #[.pointer none, .slice none 0 0, .map (some w.heap.size)] 50)
  exact ⟨rfl, ⟨cell_of h2 rfl, cell_of h2 rfl, cell_of h2 rfl, frz_of h2⟩, h1, by simp, ((Below.refl _ _).alloc (Nat.le_refl _) _).alloc (by simp) _⟩

set_option maxHeartbeats 1000000 in
set_option maxRecDepth 100000 in
theorem newScalar_any (line : Int) (text : ByteArray) (w : World) :
    Calls Tryf.prog 6 #[.int .i64 line, .string text] w fun e w' => e = .returned (.pointer (some ⟨w.heap.size + 2, 0, none⟩)) ∧ FileAt w' (w.heap.size + 2) (some ⟨w.heap.size, 0, none⟩) (.slice none 0 0) (w.heap.size + 1) ∧ NodeAt w' w.heap.size 8 tagStr text line ∧ w'.heap.size = w.heap.size + 3 ∧ Below w.heap.size w w' := by
  have hmk := @run_makeMap Tryf.prog
  go_enter Tryf.func6, Tryf.ntmps6
  go_wp2
  go_ret
  obtain ⟨h1, h2, h3⟩ := heap3 w (.cells #[.int .u32 8, .int .u32 0, .string tagStr, .string text, .string ⟨#[]⟩, .pointer none, .slice none 0 0, .string ⟨#[]⟩, .string ⟨#[]⟩, .string ⟨#[]⟩, .int .i64 line, .int .i64 0] 45) (.map #[] 0) (.cells #[.pointer (some ⟨w.heap.size, 0, none⟩), .slice none 0 0, .map (some (w.heap.size + 1))] 50)
  exact ⟨rfl, ⟨cell_of h3 rfl, cell_of h3 rfl, cell_of h3 rfl, frz_of h3⟩, ⟨cell_of h1 rfl, cell_of h1 rfl, cell_of h1 rfl, cell_of h1 rfl⟩, by simp, (((Below.refl _ _).alloc (Nat.le_refl _) _).alloc (by simp) _).alloc (by simp; omega) _⟩

set_option maxHeartbeats 1000000 in
set_option maxRecDepth 100000 in
theorem newMap_any (line : Int) (w : World) :
    Calls Tryf.prog 13 #[.int .i64 line] w fun e w' => e = .returned (.pointer (some ⟨w.heap.size + 2, 0, none⟩)) ∧ FileAt w' (w.heap.size + 2) (some ⟨w.heap.size, 0, none⟩) (.slice none 0 0) (w.heap.size + 1) ∧ NodeAt w' w.heap.size 4 tagMap ⟨#[]⟩ line ∧ w'.heap[w.heap.size + 1]? = some (.map #[] 0) ∧ w'.heap.size = w.heap.size + 3 ∧ Below w.heap.size w w' := by
  have hmk := @run_makeMap Tryf.prog
  go_enter Tryf.func13, Tryf.ntmps13
  go_wp2
  go_ret
  obtain ⟨h1, h2, h3⟩ := heap3 w (.cells #[.int .u32 4, .int .u32 0, .string tagMap, .string ⟨#[]⟩, .string ⟨#[]⟩, .pointer none, .slice none 0 0, .string ⟨#[]⟩, .string ⟨#[]⟩, .string ⟨#[]⟩, .int .i64 line, .int .i64 0] 45) (.map #[] 0) (.cells #[.pointer (some ⟨w.heap.size, 0, none⟩), .slice none 0 0, .map (some (w.heap.size + 1))] 50)
  exact ⟨rfl, ⟨cell_of h3 rfl, cell_of h3 rfl, cell_of h3 rfl, frz_of h3⟩, ⟨cell_of h1 rfl, cell_of h1 rfl, cell_of h1 rfl, cell_of h1 rfl⟩, h2, by simp, (((Below.refl _ _).alloc (Nat.le_refl _) _).alloc (by simp) _).alloc (by simp; omega) _⟩

set_option maxHeartbeats 1000000 in
set_option maxRecDepth 100000 in
theorem line_nil (fb : Nat) (w : World) :
    Calls Tryf.prog 9 #[.agg #[.pointer none, .pointer (some ⟨fb, 0, none⟩), .string theFile]] w fun e w' => e = .returned (.int .i64 0) ∧ Below w.heap.size w w' := by
  generalize theFile = tf
  go_enter Tryf.func9, Tryf.ntmps9
  go_wp2
  go_ret
  exact ⟨rfl, (Below.refl _ _).alloc (Nat.le_refl _) _⟩

set_option maxHeartbeats 1000000 in
set_option maxRecDepth 100000 in
theorem line_some (fb nb : Nat) (kind : Int) (tag value : ByteArray) (line : Int) (w : World) (h : NodeAt w nb kind tag value line) :
    Calls Tryf.prog 9 #[.agg #[.pointer (some ⟨nb, 0, none⟩), .pointer (some ⟨fb, 0, none⟩), .string theFile]] w fun e w' => e = .returned (.int .i64 line) ∧ Below w.heap.size w w' := by
  generalize theFile = tf
  have hlt := World.block_lt_of_cell? _ _ h.c10
  simp only at hlt
  have h10 := h.c10
  clear h
  go_enter Tryf.func9, Tryf.ntmps9
  go_wp2
  go_ret
  exact ⟨rfl, (Below.refl _ _).alloc (Nat.le_refl _) _⟩

set_option maxHeartbeats 1000000 in
set_option maxRecDepth 100000 in
theorem text_nil (fb : Nat) (w : World) :
    Calls Tryf.prog 10 #[.agg #[.pointer none, .pointer (some ⟨fb, 0, none⟩), .string theFile]] w fun e w' => e = .returned (.string ⟨#[]⟩) ∧ Below w.heap.size w w' := by
  generalize theFile = tf
  go_enter Tryf.func10, Tryf.ntmps10
  go_wp2
  go_ret
  exact ⟨rfl, (Below.refl _ _).alloc (Nat.le_refl _) _⟩

set_option maxHeartbeats 1000000 in
set_option maxRecDepth 100000 in
theorem text_scalar (fb nb : Nat) (value : ByteArray) (line : Int) (w : World) (h : NodeAt w nb 8 tagStr value line) :
    Calls Tryf.prog 10 #[.agg #[.pointer (some ⟨nb, 0, none⟩), .pointer (some ⟨fb, 0, none⟩), .string theFile]] w fun e w' => e = .returned (.string value) ∧ Below w.heap.size w w' := by
  generalize theFile = tf
  have hlt := World.block_lt_of_cell? _ _ h.c10
  simp only at hlt
  have h0 := h.c0
  have h2 := h.c2
  have h3 := h.c3
  unfold tagStr at h2
  clear h
  go_enter Tryf.func10, Tryf.ntmps10
  go_wp2
  go_ret
  exact ⟨rfl, (Below.refl _ _).alloc (Nat.le_refl _) _⟩

set_option maxHeartbeats 1000000 in
set_option maxRecDepth 100000 in
theorem count_any (fb : Nat) (ao : Option Addr) (n cp : Nat) (w : World) (h : w.cell? ⟨fb, 1, none⟩ = some (.slice ao n cp)) :
    Calls Tryf.prog 11 #[.pointer (some ⟨fb, 0, none⟩)] w fun e w' => e = .returned (.int .i64 n) ∧ w' = w := by
  go_enter Tryf.func11, Tryf.ntmps11
  go_wp2
  go_ret
  exact ⟨rfl, rfl⟩

set_option maxHeartbeats 1000000 in
set_option maxRecDepth 100000 in
theorem err_nil (fb : Nat) (ao : Option Addr) (cp : Nat) (w : World) (h : w.cell? ⟨fb, 1, none⟩ = some (.slice ao 0 cp)) :
    Calls Tryf.prog 12 #[.pointer (some ⟨fb, 0, none⟩)] w fun e w' => e = .returned .nilIface ∧ w' = w := by
  go_enter Tryf.func12, Tryf.ntmps12
  go_wp2
  go_ret
  exact ⟨rfl, rfl⟩

set_option maxHeartbeats 2000000 in
set_option maxRecDepth 100000 in
theorem text_absent (line : Int) (text : ByteArray) (w : World) (ht : text.size ≤ maxLen) :
    Calls Tryf.prog 3 #[.bool false, .int .i64 line, .string text] w fun e w' => e = .returned (.bool true) ∧ Below w.heap.size w w' := by
  unfold maxLen at ht
  by_cases h1 : (1048576 : Int) < (text.size : Int)
  · go_enter Tryf.func3, Tryf.ntmps3
    go_wp2
    go_ret
    exact ⟨rfl, Below.refl _ _⟩
  have hnew := newFile_any w
  go_enter Tryf.func3, Tryf.ntmps3
  go_wp2_with (first | (go_at_call 7; refine hnew.mono ?_; rintro e w1 ⟨rfl, F1', _, hz1, B1⟩) | (go_at_call 5; go_in))
  have F1 : Hid (FileAt w1 (w.heap.size + 1) none (.slice none 0 0) (w.heap.size)) := F1'
  have BB : Hid _ := B1
  have HZ : Hid _ := hz1
  clear F1' B1 hnew hz1
  generalize hfb : w.heap.size + 1 = fb at F1 ⊢
  have HFB : Hid _ := hfb
  clear hfb
  refine (root_any fb _ w1 F1.out.c0).mono ?_
  rintro e w2 ⟨rfl, B2⟩
  have F2 : Hid (FileAt w2 fb _ _ _) := F1.out.below B2 (by have := HZ.out; have := HFB.out; omega)
  have B2s : Hid (Below w.heap.size w w2) := BB.out.trans (B2.mono (by have := HZ.out; omega))
  have Z2 : Hid (fb + 1 ≤ w2.heap.size) := (by show _ ≤ _; have := HZ.out; have := HFB.out; have := B2.size; omega)
  clear B2 F1 BB
  go_wp2_with fail
  have V3 : Hid ((w2.alloc (.cells #[.pointer none, .pointer (some ⟨fb, 0, none⟩), .string theFile] 28)).heap[w2.heap.size]? = some (.cells #[.pointer none, .pointer (some ⟨fb, 0, none⟩), .string theFile] 28)) := heap_alloc_new w2 _
  have B3 : Below w2.heap.size w2 (w2.alloc (.cells #[.pointer none, .pointer (some ⟨fb, 0, none⟩), .string theFile] 28)) := (Below.refl _ _).alloc (Nat.le_refl _) _
  have Z3 : Hid ((w2.alloc (.cells #[.pointer none, .pointer (some ⟨fb, 0, none⟩), .string theFile] 28)).heap.size = w2.heap.size + 1) := World.size_alloc _ _
  generalize w2.alloc (.cells #[.pointer none, .pointer (some ⟨fb, 0, none⟩), .string theFile] 28) = w3 at V3 B3 Z3 ⊢
  have F3 : Hid (FileAt w3 fb _ _ _) := F2.out.below B3 (by have := Z2.out; omega)
  have B3s : Hid (Below w.heap.size w w3) := B2s.out.trans (B3.mono B2s.out.size)
  clear B3 F2 B2s
  refine (line_nil fb w3).mono ?_
  rintro e w4 ⟨rfl, B4⟩
  have v4 : w4.heap[w2.heap.size]? = some (.cells #[.pointer none, .pointer (some ⟨fb, 0, none⟩), .string theFile] 28) := (B4.block _ (by have := Z3.out; omega)).trans V3.out
  have c40 := cell_of (o := 0) v4 rfl
  have c41 := cell_of (o := 1) v4 rfl
  have c42 := cell_of (o := 2) v4 rfl
  have F4 : Hid (FileAt w4 fb _ _ _) := F3.out.below B4 (by have := Z2.out; have := Z3.out; omega)
  have B4s : Hid (Below w.heap.size w w4) := B3s.out.trans (B4.mono B3s.out.size)
  have Z4 : Hid (fb + 1 ≤ w4.heap.size) := (by show _ ≤ _; have := Z2.out; have := Z3.out; have := B4.size; omega)
  clear B4 v4 F3 B3s V3
  go_wp2_with fail
  refine (text_nil fb w4).mono ?_
  rintro e w5 ⟨rfl, B5⟩
  have F5 : Hid (FileAt w5 fb _ _ _) := F4.out.below B5 (by have := Z4.out; omega)
  have B5s : Hid (Below w.heap.size w w5) := B4s.out.trans (B5.mono B4s.out.size)
  have hc5 := F5.out.c1
  clear B5 F4 B4s c40 c41 c42
  go_wp2_with fail
  refine (count_any fb _ _ _ w5 hc5).mono ?_
  rintro e w6 ⟨rfl, hw⟩; subst w6
  go_wp2_with fail
  refine (err_nil fb _ _ w5 hc5).mono ?_
  rintro e w6 ⟨rfl, hw⟩; subst w6
  go_wp2
  go_ret
  exact ⟨rfl, B5s.out⟩

set_option maxHeartbeats 2000000 in
set_option maxRecDepth 100000 in
theorem text_present (line : Int) (text : ByteArray) (w : World) (ht : text.size ≤ maxLen) :
    Calls Tryf.prog 3 #[.bool true, .int .i64 line, .string text] w fun e w' => e = .returned (.bool true) ∧ Below w.heap.size w w' := by
  unfold maxLen at ht
  by_cases h1 : (1048576 : Int) < (text.size : Int)
  · go_enter Tryf.func3, Tryf.ntmps3
    go_wp2
    go_ret
    exact ⟨rfl, Below.refl _ _⟩
  have hnew := newScalar_any line text w
  go_enter Tryf.func3, Tryf.ntmps3
  go_wp2_with (first | (go_at_call 6; refine hnew.mono ?_; rintro e w1 ⟨rfl, F1', N1, hz1, B1⟩) | (go_at_call 5; go_in))
  have F1 : Hid (FileAt w1 (w.heap.size + 2) (some ⟨w.heap.size, 0, none⟩) (.slice none 0 0) (w.heap.size + 1)) := F1'
  have BB : Hid _ := B1
  have HZ : Hid _ := hz1
  clear F1' B1 hnew hz1
  have N : Hid (NodeAt w1 w.heap.size 8 tagStr text line) := N1
  clear N1
  generalize hfb : w.heap.size + 2 = fb at F1 ⊢
  have HFB : Hid _ := hfb
  clear hfb
  refine (root_any fb _ w1 F1.out.c0).mono ?_
  rintro e w2 ⟨rfl, B2⟩
  have F2 : Hid (FileAt w2 fb _ _ _) := F1.out.below B2 (by have := HZ.out; have := HFB.out; omega)
  have B2s : Hid (Below w.heap.size w w2) := BB.out.trans (B2.mono (by have := HZ.out; omega))
  have Z2 : Hid (fb + 1 ≤ w2.heap.size) := (by show _ ≤ _; have := HZ.out; have := HFB.out; have := B2.size; omega)
  have N2 : Hid (NodeAt w2 _ _ _ _ _) := N.out.below B2 (by have := HZ.out; omega)
  clear B2 F1 BB
  go_wp2_with fail
  have V3 : Hid ((w2.alloc (.cells #[.pointer (some ⟨w.heap.size, 0, none⟩), .pointer (some ⟨fb, 0, none⟩), .string theFile] 28)).heap[w2.heap.size]? = some (.cells #[.pointer (some ⟨w.heap.size, 0, none⟩), .pointer (some ⟨fb, 0, none⟩), .string theFile] 28)) := heap_alloc_new w2 _
  have B3 : Below w2.heap.size w2 (w2.alloc (.cells #[.pointer (some ⟨w.heap.size, 0, none⟩), .pointer (some ⟨fb, 0, none⟩), .string theFile] 28)) := (Below.refl _ _).alloc (Nat.le_refl _) _
  have Z3 : Hid ((w2.alloc (.cells #[.pointer (some ⟨w.heap.size, 0, none⟩), .pointer (some ⟨fb, 0, none⟩), .string theFile] 28)).heap.size = w2.heap.size + 1) := World.size_alloc _ _
  generalize w2.alloc (.cells #[.pointer (some ⟨w.heap.size, 0, none⟩), .pointer (some ⟨fb, 0, none⟩), .string theFile] 28) = w3 at V3 B3 Z3 ⊢
  have F3 : Hid (FileAt w3 fb _ _ _) := F2.out.below B3 (by have := Z2.out; omega)
  have N3 : Hid (NodeAt w3 _ _ _ _ _) := N2.out.below B3 (by have := Z2.out; have := HFB.out; omega)
  have B3s : Hid (Below w.heap.size w w3) := B2s.out.trans (B3.mono B2s.out.size)
  clear B3 F2 B2s
  refine (line_some fb w.heap.size _ _ _ _ w3 N3.out).mono ?_
  rintro e w4 ⟨rfl, B4⟩
  have v4 : w4.heap[w2.heap.size]? = some (.cells #[.pointer (some ⟨w.heap.size, 0, none⟩), .pointer (some ⟨fb, 0, none⟩), .string theFile] 28) := (B4.block _ (by have := Z3.out; omega)).trans V3.out
  have c40 := cell_of (o := 0) v4 rfl
  have c41 := cell_of (o := 1) v4 rfl
  have c42 := cell_of (o := 2) v4 rfl
  have F4 : Hid (FileAt w4 fb _ _ _) := F3.out.below B4 (by have := Z2.out; have := Z3.out; omega)
  have N4 : Hid (NodeAt w4 _ _ _ _ _) := N3.out.below B4 (by have := Z2.out; have := HFB.out; have := Z3.out; omega)
  have B4s : Hid (Below w.heap.size w w4) := B3s.out.trans (B4.mono B3s.out.size)
  have Z4 : Hid (fb + 1 ≤ w4.heap.size) := (by show _ ≤ _; have := Z2.out; have := Z3.out; have := B4.size; omega)
  clear B4 v4 F3 B3s V3
  go_wp2_with fail
  refine (text_scalar fb w.heap.size _ _ w4 N4.out).mono ?_
  rintro e w5 ⟨rfl, B5⟩
  have F5 : Hid (FileAt w5 fb _ _ _) := F4.out.below B5 (by have := Z4.out; omega)
  have B5s : Hid (Below w.heap.size w w5) := B4s.out.trans (B5.mono B4s.out.size)
  have hc5 := F5.out.c1
  clear B5 F4 B4s c40 c41 c42
  go_wp2_with fail
  refine (count_any fb _ _ _ w5 hc5).mono ?_
  rintro e w6 ⟨rfl, hw⟩; subst w6
  go_wp2_with fail
  refine (err_nil fb _ _ w5 hc5).mono ?_
  rintro e w6 ⟨rfl, hw⟩; subst w6
  go_wp2
  go_ret
  exact ⟨rfl, B5s.out⟩

end Go.Proofs.Qxb6614210aFmt
