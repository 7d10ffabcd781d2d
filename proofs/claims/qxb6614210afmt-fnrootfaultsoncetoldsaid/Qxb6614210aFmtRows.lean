/-
  No cell of these rows narrows 'for every input' (looked for: loops, veiled, ifaces, maps, wideKeys, modest, calm, conditions, laid).
  DERIVED. THE GIVEN ROWS OF THIS SEAT. 2 by the template 'for every input the law returns true; each argument reads behind the call as it read before'; 0 by the template 'total and deterministic' (their statements: Qxb6614210aFmtTotals.lean).
  GIVEN WITH THE SEED: the statements are not yours to turn. If you find one false, say at which input.
  Laid BY PROGRAM, IN A SANDBOX (cutbox-rows.mjs): the forced cells as the released guide's own fill.sh prints them over the translation 6b6ee481bcdb3d82… (all of the seat's roots in one cut). By AI agents, Wed Nov 11 2026. No macro, syntax, notation, axiom, sorry.
-/
import Derived.Test.Qxb6614210aFmtChecked
import GoSem.Claim
import GoSem.ClaimJoined
import GoSem.ClaimMapViews
import Derived.JoinedTies
import Derived.KernelRfl
namespace Go.Proofs.Qxb6614210aFmt
/- THE CELL 'sum', in the pinned program and in every row, IS THE sha256 OF THE DUMP (.gsa) THAT Qxb6614210aFmtProg.lean LOADS. Nothing in Lean hashes anything: it is a label: what it is worth is what the hold of that sum in a sandbox is worth. -/
noncomputable def Tryf.pinned : Pinned := { name := "qxb6614210afmt", sum := "6b6ee481bcdb3d826bb5c3d48bb37ab45a3b9e49a7e8bab0c35415f8b351b3c2", checked := Tryf.checked }
namespace Rows
def none {H : Type} : Left H := { results := [], args := [] }

/-- 'zzlaws_config_b1.FnRootLineAndText': WHATEVER THE INPUT: true; the input reads as it did. -/
def fnRootLineAndTextSpec : ChangeSpec := { name := "fnRootLineAndText", fn := fun _ => fun
  | [d1, d2, d3] => { results := [.lit (.bool true)], args := [d1, d2, d3] }
  | _ => none }
def fnRootLineAndTextRow : OpenClaim := { program := "qxb6614210afmt", sum := "6b6ee481bcdb3d826bb5c3d48bb37ab45a3b9e49a7e8bab0c35415f8b351b3c2", func := "example.com/portcullis/portcullis/zzlaws_config_b1.FnRootLineAndText", spec := "fnRootLineAndText", stops := ["fmt.Sprintf, its operands' methods called"], inPlace := ["fmt.Sprintf"], unfollowed := true, recurses := true, apart := false }
/-- NO THEOREM (fmt's text is open here; it may be false): for the released tool's asking of the row's closed facts alone. THE STATEMENT IS 'FnRootLineAndTextToldSaid' (Qxb6614210aFmtCards.lean). -/
def FnRootLineAndTextFormAsk : Prop := fnRootLineAndTextRow.holds Tryf.pinned (OpenSpec.ofChange fnRootLineAndTextSpec)

/-- ITS FALSE NEIGHBOUR: 'it returns false'. Refute it at one input. -/
def fnRootLineAndTextWrong : ChangeSpec := { name := "fnRootLineAndText", fn := fun _ => fun
  | [d1, d2, d3] => { results := [.lit (.bool false)], args := [d1, d2, d3] }
  | _ => none }
def FnRootLineAndTextWrongFormAsk : Prop := fnRootLineAndTextRow.holds Tryf.pinned (OpenSpec.ofChange fnRootLineAndTextWrong)

/-- 'zzlaws_config_b1.FnRootFaultsOnce': WHATEVER THE INPUT: true; the input reads as it did. -/
def fnRootFaultsOnceSpec : ChangeSpec := { name := "fnRootFaultsOnce", fn := fun _ => fun
  | [d1, d2] => { results := [.lit (.bool true)], args := [d1, d2] }
  | _ => none }
def fnRootFaultsOnceRow : OpenClaim := { program := "qxb6614210afmt", sum := "6b6ee481bcdb3d826bb5c3d48bb37ab45a3b9e49a7e8bab0c35415f8b351b3c2", func := "example.com/portcullis/portcullis/zzlaws_config_b1.FnRootFaultsOnce", spec := "fnRootFaultsOnce", stops := ["fmt.Sprintf, its operands' methods called"], inPlace := ["fmt.Sprintf"], unfollowed := true, recurses := true, apart := false }
/-- NO THEOREM (fmt's text is open here; it may be false): for the released tool's asking of the row's closed facts alone. THE STATEMENT IS 'FnRootFaultsOnceToldSaid' (Qxb6614210aFmtCards.lean). -/
def FnRootFaultsOnceFormAsk : Prop := fnRootFaultsOnceRow.holds Tryf.pinned (OpenSpec.ofChange fnRootFaultsOnceSpec)

/-- ITS FALSE NEIGHBOUR: 'it returns false'. Refute it at one input. -/
def fnRootFaultsOnceWrong : ChangeSpec := { name := "fnRootFaultsOnce", fn := fun _ => fun
  | [d1, d2] => { results := [.lit (.bool false)], args := [d1, d2] }
  | _ => none }
def FnRootFaultsOnceWrongFormAsk : Prop := fnRootFaultsOnceRow.holds Tryf.pinned (OpenSpec.ofChange fnRootFaultsOnceWrong)

end Rows
end Go.Proofs.Qxb6614210aFmt
