/-
  No cell of these rows narrows 'for every input' (looked for: loops, veiled, ifaces, maps, wideKeys, modest, calm, conditions, laid).
  DERIVED. THE GIVEN ROWS OF THIS SEAT. 2 by the template 'for every input the law returns true; each argument reads behind the call as it read before'; 0 by the template 'total and deterministic' (their statements: Qxb6614210aTotals.lean).
  GIVEN WITH THE SEED: the statements are not yours to turn. If you find one false, say at which input.
  Laid BY PROGRAM, IN A SANDBOX (cutbox-rows.mjs): the forced cells as the released guide's own fill.sh prints them over the translation 257aacc6021ad79b… (all of the seat's roots in one cut). By AI agents, Wed Nov 11 2026. No macro, syntax, notation, axiom, sorry.
-/
import Derived.Test.Qxb6614210aChecked
import GoSem.Claim
import GoSem.ClaimJoined
import GoSem.ClaimMapViews
import Derived.JoinedTies
import Derived.KernelRfl
namespace Go.Proofs.Qxb6614210a
/- THE CELL 'sum', in the pinned program and in every row, IS THE sha256 OF THE DUMP (.gsa) THAT Qxb6614210aProg.lean LOADS. Nothing in Lean hashes anything: it is a label: what it is worth is what the hold of that sum in a sandbox is worth. -/
noncomputable def Try.pinned : Pinned := { name := "qxb6614210a", sum := "257aacc6021ad79b97f48a9d855bdf1950e1a85b391fc8fb8b5408bd29e52de6", checked := Try.checked }
namespace Rows
def none {H : Type} : Left H := { results := [], args := [] }

/-- 'zzlaws_config_b1.FnErrOrdersByLineStably': WHATEVER THE INPUT: true; the input reads as it did. -/
def fnErrOrdersByLineStablySpec : ChangeSpec := { name := "fnErrOrdersByLineStably", fn := fun _ => fun
  | [d1, d2] => { results := [.lit (.bool true)], args := [d1, d2] }
  | _ => none }
def fnErrOrdersByLineStablyRow : OpenClaim := { program := "qxb6614210a", sum := "257aacc6021ad79b97f48a9d855bdf1950e1a85b391fc8fb8b5408bd29e52de6", func := "example.com/portcullis/portcullis/zzlaws_config_b1.FnErrOrdersByLineStably", spec := "fnErrOrdersByLineStably", unfollowed := true, recurses := true, apart := false }
def FnErrOrdersByLineStablySaid : Prop := fnErrOrdersByLineStablyRow.holds Try.pinned (OpenSpec.ofChange fnErrOrdersByLineStablySpec)

/-- ITS FALSE NEIGHBOUR: 'it returns false'. Refute it at one input. -/
def fnErrOrdersByLineStablyWrong : ChangeSpec := { name := "fnErrOrdersByLineStably", fn := fun _ => fun
  | [d1, d2] => { results := [.lit (.bool false)], args := [d1, d2] }
  | _ => none }
def FnErrOrdersByLineStablyWrongFalsely : Prop := fnErrOrdersByLineStablyRow.holds Try.pinned (OpenSpec.ofChange fnErrOrdersByLineStablyWrong)

/-- 'zzlaws_config_b1.FnErrAgainAfterMoreAgrees': WHATEVER THE INPUT: true; the input reads as it did. -/
def fnErrAgainAfterMoreAgreesSpec : ChangeSpec := { name := "fnErrAgainAfterMoreAgrees", fn := fun _ => fun
  | [d1, d2, d3, d4] => { results := [.lit (.bool true)], args := [d1, d2, d3, d4] }
  | _ => none }
def fnErrAgainAfterMoreAgreesRow : OpenClaim := { program := "qxb6614210a", sum := "257aacc6021ad79b97f48a9d855bdf1950e1a85b391fc8fb8b5408bd29e52de6", func := "example.com/portcullis/portcullis/zzlaws_config_b1.FnErrAgainAfterMoreAgrees", spec := "fnErrAgainAfterMoreAgrees", unfollowed := true, recurses := true, apart := false }
def FnErrAgainAfterMoreAgreesSaid : Prop := fnErrAgainAfterMoreAgreesRow.holds Try.pinned (OpenSpec.ofChange fnErrAgainAfterMoreAgreesSpec)

/-- ITS FALSE NEIGHBOUR: 'it returns false'. Refute it at one input. -/
def fnErrAgainAfterMoreAgreesWrong : ChangeSpec := { name := "fnErrAgainAfterMoreAgrees", fn := fun _ => fun
  | [d1, d2, d3, d4] => { results := [.lit (.bool false)], args := [d1, d2, d3, d4] }
  | _ => none }
def FnErrAgainAfterMoreAgreesWrongFalsely : Prop := fnErrAgainAfterMoreAgreesRow.holds Try.pinned (OpenSpec.ofChange fnErrAgainAfterMoreAgreesWrong)

end Rows
end Go.Proofs.Qxb6614210a
