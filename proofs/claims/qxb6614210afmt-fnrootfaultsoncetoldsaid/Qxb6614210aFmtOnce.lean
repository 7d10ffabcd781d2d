/-
  THE WALK OF FnRootFaultsOnce.
-/
import Derived.Test.Qxb6614210aFmtFault
namespace Go.Proofs.Qxb6614210aFmt
open Go.RowKit Go.Extern.Stop Go.Stop Go.Extern

set_option maxHeartbeats 2000000 in
set_option maxRecDepth 100000 in
theorem once_absent (line : Int) (w : World) :
    Calls Tryf.prog 4 #[.bool false, .int .i64 line] w fun e w' => e = .returned (.bool true) ∧ Below w.heap.size w w' := by
  have hnew := newFile_any w
  go_enter Tryf.func4, Tryf.ntmps4
  go_wp2_with fail
  refine hnew.mono ?_
  rintro e w1 ⟨rfl, F1', _, hz1, B1⟩
  have F1 : Hid (FileAt w1 (w.heap.size + 1) none (.slice none 0 0) w.heap.size) := F1'
  have BB : Hid _ := B1
  have HZ : Hid _ := hz1
  clear F1' B1 hnew hz1
  generalize hfb : w.heap.size + 1 = fb at F1 ⊢
  have HFB : Hid _ := hfb
  clear hfb
  go_wp2_with fail
  refine (root_any fb _ w1 F1.out.c0).mono ?_
  rintro e w2 ⟨rfl, B2⟩
  have F2 : Hid (FileAt w2 fb _ _ _) := F1.out.below B2 (by have := HZ.out; have := HFB.out; omega)
  have B2s : Hid (Below w.heap.size w w2) := BB.out.trans (B2.mono (by have := HZ.out; omega))
  have Z2 : Hid (fb + 1 ≤ w2.heap.size) := (by show _ ≤ _; have := HZ.out; have := HFB.out; have := B2.size; omega)
  clear B2 F1 BB
  go_wp2_with fail
  refine (text_nil fb w2).mono ?_
  rintro e w3 ⟨rfl, B3⟩
  have F3 : Hid (FileAt w3 fb _ _ _) := F2.out.below B3 (by have := Z2.out; omega)
  have B3s : Hid (Below w.heap.size w w3) := B2s.out.trans (B3.mono B2s.out.size)
  have Z3 : Hid (fb + 1 ≤ w3.heap.size) := (by show _ ≤ _; have := Z2.out; have := B3.size; omega)
  clear B3 F2 B2s Z2
  go_wp2_with fail
  refine (root_any fb _ w3 F3.out.c0).mono ?_
  rintro e w4 ⟨rfl, B4⟩
  have F4 : Hid (FileAt w4 fb _ _ _) := F3.out.below B4 (by have := Z3.out; omega)
  have B4s : Hid (Below w.heap.size w w4) := B3s.out.trans (B4.mono B3s.out.size)
  have Z4 : Hid (fb + 1 ≤ w4.heap.size) := (by show _ ≤ _; have := Z3.out; have := B4.size; omega)
  clear B4 F3 B3s Z3
  go_wp2_with fail
  refine (text_nil fb w4).mono ?_
  rintro e w5 ⟨rfl, B5⟩
  have F5 : Hid (FileAt w5 fb _ _ _) := F4.out.below B5 (by have := Z4.out; omega)
  have B5s : Hid (Below w.heap.size w w5) := B4s.out.trans (B5.mono B4s.out.size)
  have hc5 := F5.out.c1
  clear B5 F4 B4s Z4
  go_wp2_with fail
  refine (err_nil fb _ _ w5 hc5).mono ?_
  rintro e w6 ⟨rfl, hw⟩; subst w6
  go_wp2_with fail
  refine (count_any fb _ _ _ w5 hc5).mono ?_
  rintro e w6 ⟨rfl, hw⟩; subst w6
  go_wp2
  go_ret
  exact ⟨rfl, B5s.out⟩

set_option maxHeartbeats 2000000 in
set_option maxRecDepth 100000 in
theorem once_present (F : Interp) (line : Int) (w : World) (hF : F.answers w.tape) :
    Calls Tryf.prog 4 #[.bool true, .int .i64 line] w fun e w' => e = .returned (.bool true) ∧ Below w.heap.size w w' := by
  have hnew := newMap_any line w
  go_enter Tryf.func4, Tryf.ntmps4
  go_wp2_with fail
  refine hnew.mono ?_
  rintro e w1 ⟨rfl, F1', N1', M1', hz1, B1⟩
  have F1 : Hid (FileAt w1 (w.heap.size + 2) (some ⟨w.heap.size, 0, none⟩) (.slice none 0 0) (w.heap.size + 1)) := F1'
  have N1 : Hid (NodeAt w1 w.heap.size 4 tagMap ⟨#[]⟩ line) := N1'
  have M1 : Hid (w1.heap[w.heap.size + 1]? = some (.map #[] 0)) := M1'
  have BB : Hid _ := B1
  have HZ : Hid _ := hz1
  clear F1' N1' M1' B1 hnew hz1
  generalize hfb : w.heap.size + 2 = fb at F1 ⊢
  generalize hmb : w.heap.size + 1 = mb at F1 M1
  have HFB : Hid _ := hfb
  have HMB : Hid _ := hmb
  clear hfb hmb
  go_wp2_with fail
  refine (root_any fb _ w1 F1.out.c0).mono ?_
  rintro e w2 ⟨rfl, B2⟩
  have F2 : FileAt w2 fb (some ⟨w.heap.size, 0, none⟩) (.slice none 0 0) mb := F1.out.below B2 (by have := HZ.out; have := HFB.out; omega)
  have N2 : NodeAt w2 w.heap.size 4 tagMap ⟨#[]⟩ line := N1.out.below B2 (by have := HZ.out; omega)
  have M2 : w2.heap[mb]? = some (.map #[] 0) := (B2.block mb (by have := HZ.out; have := HMB.out; omega)).trans M1.out
  have B2s : Hid (Below w.heap.size w w2) := BB.out.trans (B2.mono (by have := HZ.out; omega))
  have htx := text_first F w.heap.size fb mb tagMap ⟨#[]⟩ line w2 (by rw [B2s.out.tape]; exact hF) N2 F2 M2 (by have := HFB.out; omega) (by have := HFB.out; have := HMB.out; omega)
  clear F2 N2 M2 B2 F1 N1 M1 BB
  go_wp2_with fail
  refine htx.mono ?_
  rintro e w3 ⟨rfl, B3, g, cap, m, D3'⟩
  have D3 : Hid (Done w3 w.heap.size fb mb g cap tagMap ⟨#[]⟩ line m) := D3'
  have B3s : Hid (Below w.heap.size w w3) := B2s.out.trans (B3.below B2s.out.size (by have := HMB.out; omega) (by have := HFB.out; omega))
  clear D3' B3 htx B2s
  go_wp2_with fail
  refine (root_any fb _ w3 D3.out.file.c0).mono ?_
  rintro e w4 ⟨rfl, B4⟩
  have D4 : Hid (Done w4 w.heap.size fb mb g cap tagMap ⟨#[]⟩ line m) := D3.out.below B4
  have B4s : Hid (Below w.heap.size w w4) := B3s.out.trans (B4.mono B3s.out.size)
  clear D3 B4 B3s
  go_wp2_with fail
  refine (text_again _ fb mb g cap _ _ line m w4 D4.out).mono ?_
  rintro e w5 ⟨rfl, B5⟩
  have D5 : Hid (Done w5 w.heap.size fb mb g cap tagMap ⟨#[]⟩ line m) := D4.out.below B5
  have B5s : Hid (Below w.heap.size w w5) := B4s.out.trans (B5.mono B4s.out.size)
  have hc5 := D5.out.file.c1
  have hg0 : w5.cell? ⟨g, 0, none⟩ = some (.int .i64 line) := by
    have := D5.out.own.cells (g := g) rfl 0 _ rfl
    rwa [Addr.add_lit] at this
  clear D4 B5 B4s
  have e1 : ((((1 : Nat) : Int)) == 1) = true := rfl
  go_wp2_with fail
  refine (err_one fb g cap w5 hc5).mono ?_
  rintro e w6 ⟨rfl, hw⟩; subst w6
  go_wp2_with fail
  refine (errCount_any _ _ _ w5).mono ?_
  rintro e w6 ⟨rfl, hw⟩; subst w6
  go_wp2_with fail
  refine (errLine_zero g cap line w5 hg0).mono ?_
  rintro e w6 ⟨rfl, hw⟩; subst w6
  go_wp2
  go_ret
  exact ⟨rfl, B5s.out⟩
end Go.Proofs.Qxb6614210aFmt
