/-
  'Rows.FnRootFaultsOnceToldSaid', PROVED. (The told card: fmt's text is told by the authors' own function. The law counts the fault and reads its line; it does not look at the text, and the proof holds whatever text fmt gives.)
-/
import Derived.Test.Qxb6614210aFmtCards
import Derived.Test.Qxb6614210aFmtOnce
import Derived.ProofKit
import Derived.ShutString
import Derived.Stop.JoinedAt
import Derived.Stop.Texts
import Derived.Stop.JoinedTold
import Derived.SizedLaws
import Derived.SevenToldRow
namespace Go.Proofs.Qxb6614210aFmt
open Go.ChangeShapes Go.WideShapes Go.ChangeAt Go.RowKit Go.Kit
open Go.Extern.Stop Go.Stop Go.Extern

theorem ownO : ownKnob Tryf.prog.godebug = none := by kernel_rfl

theorem once_any (F : Interp) (present : Bool) (line : Int) (w : World) (hF : F.answers w.tape) :
    Calls Tryf.prog 4 #[.bool present, .int .i64 line] w fun e w' => e = .returned (.bool true) ∧ Below w.heap.size w w' := by
  cases present
  · exact once_absent line w
  · exact once_present F line w hF

set_option maxRecDepth 100000 in
theorem once_lifted (os : Os) (started : os.Started) (H : Type) (enc : TypeId × Value → H) :
    ReturnsInTold none {} Tryf.checked os 4 .any Input.okWide ((OpenSpec.ofChange Rows.fnRootFaultsOnceSpec).preRow enc Tryf.prog Tryf.f4 [] false []) (fun F => ((OpenSpec.ofChange Rows.fnRootFaultsOnceSpec).at F).post enc Tryf.prog Tryf.f4 false true false false) (aloneAtReturn Tryf.prog) nothingAlways := by
  refine returnsInTold_of_row (C := Tryf.checked) (s := OpenSpec.ofChange Rows.fnRootFaultsOnceSpec) (by kernel_rfl) ownO started (by kernel_rfl) Tryf.func4
    (OpenSpec.witness_stopped (enc := enc) (C := Tryf.checked) false ⟨#[], #[.bool false, .int .i64 0], []⟩ 8 (by kernel_rfl) (by kernel_rfl) (by kernel_rfl) (by kernel_rfl)) ?_
  intro F W base args ds gs before _ hF hval0 hW _ _ hsz _ _
  have hval : ∀ (j : Nat) t v, Tryf.f4.params[j]? = some t → args[j]? = some v → Value.okWide Tryf.prog W .any base t v := hval0
  have hW' := hW
  obtain ⟨p, q, hA0, hV, rfl, hfz, hnd⟩ := hW
  have hA : DataW.TrodAll enc Tryf.prog W 0 (fun _ => true) true Tryf.f4.params.toList args.toList ds p := hA0
  rw [Tryf.params4] at hA hval
  obtain ⟨v0, v1, d0, d1, p0, p1, rfl, rfl, rfl, h0, h1⟩ := trodAll_two hA
  obtain ⟨rfl, rfl⟩ := trodVars_none hV
  obtain ⟨x, rfl, rfl, rfl⟩ := open_bool Tryf.underlying4 (hval 0 4 v0 rfl rfl) h0
  obtain ⟨line, rfl, rfl, rfl, wl⟩ := open_int Tryf.underlying3 (hval 1 3 v1 rfl rfl) h1
  clear hA0 hval0
  refine (once_any F.told x line W hF).mono fun e W' ⟨he, bel⟩ => ?_
  subst he
  exact ⟨_, rfl, _, _, _, [], [], [], hW', trodAll_mk1 (shut_bool Tryf.underlying4 _), trodAll_mk2 (shut_bool Tryf.underlying4 _) (shut_int Tryf.underlying3 wl), rfl, bel.frame _, fun h => by cases h⟩

theorem laidOutO : laidOutB Tryf.pinned.checked.prog = true := by kernel_rfl
theorem stopsO : Tryf.pinned.checked.prog.stops = Rows.fnRootFaultsOnceRow.stops := by kernel_rfl
theorem stopKnobsO : Tryf.pinned.checked.prog.stopKnobs = [] := by kernel_rfl
theorem quietO (os : Os) : Stop.quiet Tryf.pinned.checked.prog os := by
  intro k hk
  rw [stopKnobsO] at hk
  cases hk

/-- THE STATEMENT. -/
theorem once_proved : Rows.FnRootFaultsOnceToldSaid :=
  Claim7.holds_of_told_any 4 Tryf.f4 _ [] [] _ _ _ (by kernel_rfl) rfl rfl rfl laidOutO (by kernel_rfl) rfl ⟨rfl, rfl, rfl, rfl, rfl, rfl, rfl⟩ rfl rfl (by kernel_rfl) (by kernel_rfl) Tryf.func4 (by kernel_rfl)
    (of_decide_eq_true (by kernel_rfl)) (of_decide_eq_true (by kernel_rfl)) stopsO.symm rfl stopKnobsO.symm (by kernel_rfl)
    (by kernel_rfl) (by kernel_rfl) (by kernel_rfl) (by kernel_rfl) (by kernel_rfl) (by kernel_rfl) (by kernel_rfl) (by kernel_rfl) (by kernel_rfl) rfl (by kernel_rfl) rfl rfl
    rfl rfl
    rfl (by kernel_rfl) (by kernel_rfl) (by kernel_rfl) (by decide) (by kernel_rfl)
    (OpenClaim.moreEntering_of (by kernel_rfl) (by kernel_rfl) (by kernel_rfl) (by kernel_rfl) (by kernel_rfl) (by kernel_rfl) (by kernel_rfl) (by kernel_rfl) (by kernel_rfl) (by kernel_rfl))
    ⟨_, WideRow.started_initial, quietO _⟩
    (fun os started _ H enc _ => once_lifted os started H enc)
#print axioms once_proved
end Go.Proofs.Qxb6614210aFmt
