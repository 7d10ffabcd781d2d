/-
  DERIVED. GIVEN WITH THE SEED: THE CARDS: each row of Qxb6614210aFmtRows.lean that lists a variable, with what it lists TIED to the program's text (the seventh form; the later family's looks); each row that meets fmt, with fmt's text TOLD by the authors' own Lean function (tested against real Go, not proved from fmt's source: count such statements apart). THE CARD IS WHAT COUNTS. Prove the row's statement (the work); the ties are given (Qxb6614210aFmtTie.lean); close each card by the builder's one call (the guide's Derived/Test/ToyasCard.lean, 'card_holds'). Laid BY PROGRAM, IN A SANDBOX (cutbox-door.mjs). By AI agents, Wed Nov 11 2026. No macro, syntax, notation, axiom, sorry.
-/
import Derived.Test.Qxb6614210aFmtRows
import GoSem.ClaimSeven
namespace Go.Proofs.Qxb6614210aFmt
namespace Rows

/-- THE TOLD CARD OF 'zzlaws_config_b1.FnRootLineAndText'. -/
def fnRootLineAndTextCard : Claim7 := { stood := { row := fnRootLineAndTextRow, standIns := [], harness := (true, "7436350f2831932b58eb7a6a0fa22e41da9878c7d8e45750793ec8b330dfd38f"), looks := true }, told := true, goes := false }
def FnRootLineAndTextToldSaid : Prop := Claim7.holds Tryf.pinned (.plain (OpenSpec.ofChange fnRootLineAndTextSpec)) fnRootLineAndTextCard
/-- ITS FALSE NEIGHBOUR. Refute it at one input. -/
def FnRootLineAndTextToldWrongFalsely : Prop := Claim7.holds Tryf.pinned (.plain (OpenSpec.ofChange fnRootLineAndTextWrong)) fnRootLineAndTextCard

/-- THE TOLD CARD OF 'zzlaws_config_b1.FnRootFaultsOnce'. -/
def fnRootFaultsOnceCard : Claim7 := { stood := { row := fnRootFaultsOnceRow, standIns := [], harness := (true, "7436350f2831932b58eb7a6a0fa22e41da9878c7d8e45750793ec8b330dfd38f"), looks := true }, told := true, goes := false }
def FnRootFaultsOnceToldSaid : Prop := Claim7.holds Tryf.pinned (.plain (OpenSpec.ofChange fnRootFaultsOnceSpec)) fnRootFaultsOnceCard
/-- ITS FALSE NEIGHBOUR. Refute it at one input. -/
def FnRootFaultsOnceToldWrongFalsely : Prop := Claim7.holds Tryf.pinned (.plain (OpenSpec.ofChange fnRootFaultsOnceWrong)) fnRootFaultsOnceCard
end Rows
end Go.Proofs.Qxb6614210aFmt
