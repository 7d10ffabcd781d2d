/-
  No cell of these rows narrows 'for every input' (looked for: loops, veiled, ifaces, maps, wideKeys, modest, calm, conditions, laid).
  DERIVED. THE GIVEN ROWS OF THIS SEAT. 4 by the template 'for every input the law returns true; each argument reads behind the call as it read before'; 0 by the template 'total and deterministic' (their statements: Qxb6614386aTotals.lean).
  GIVEN WITH THE SEED: the statements are not yours to turn. If you find one false, say at which input.
  Laid BY PROGRAM, IN A SANDBOX (cutbox-rows.mjs): the forced cells as the released guide's own fill.sh prints them over the translation 2788594101e64fa2… (all of the seat's roots in one cut). By AI agents, Wed Nov 11 2026. No macro, syntax, notation, axiom, sorry.
-/
import Derived.Test.Qxb6614386aChecked
import GoSem.Claim
import GoSem.ClaimJoined
import GoSem.ClaimMapViews
import Derived.JoinedTies
import Derived.KernelRfl
namespace Go.Proofs.Qxb6614386a
/- THE CELL 'sum', in the pinned program and in every row, IS THE sha256 OF THE DUMP (.gsa) THAT Qxb6614386aProg.lean LOADS. Nothing in Lean hashes anything: it is a label: what it is worth is what the hold of that sum in a sandbox is worth. -/
noncomputable def Try.pinned : Pinned := { name := "qxb6614386a", sum := "2788594101e64fa2995e76731a52c68bde0bc8f943746393f87b249418c72e6e", checked := Try.checked }
namespace Rows
def none {H : Type} : Left H := { results := [], args := [] }

/-- 'zzlaws_server_b1.FnDecoderBufferThenRestReadsAsFreshFrame': WHATEVER THE INPUT: true; the input reads as it did. -/
def fnDecoderBufferThenRestReadsAsFreshFrameSpec : ChangeSpec := { name := "fnDecoderBufferThenRestReadsAsFreshFrame", fn := fun _ => fun
  | [d] => { results := [.lit (.bool true)], args := [d] }
  | _ => none }
def fnDecoderBufferThenRestReadsAsFreshFrameRow : OpenClaim := { program := "qxb6614386a", sum := "2788594101e64fa2995e76731a52c68bde0bc8f943746393f87b249418c72e6e", func := "example.com/zlatch/zlatch/zzlaws_server_b1.FnDecoderBufferThenRestReadsAsFreshFrame", spec := "fnDecoderBufferThenRestReadsAsFreshFrame", named := ["encoding/binary.BigEndian"], apart := false }
def FnDecoderBufferThenRestReadsAsFreshFrameSaid : Prop := fnDecoderBufferThenRestReadsAsFreshFrameRow.holds Try.pinned (OpenSpec.ofChange fnDecoderBufferThenRestReadsAsFreshFrameSpec)

/-- ITS FALSE NEIGHBOUR: 'it returns false'. Refute it at one input. -/
def fnDecoderBufferThenRestReadsAsFreshFrameWrong : ChangeSpec := { name := "fnDecoderBufferThenRestReadsAsFreshFrame", fn := fun _ => fun
  | [d] => { results := [.lit (.bool false)], args := [d] }
  | _ => none }
def FnDecoderBufferThenRestReadsAsFreshFrameWrongFalsely : Prop := fnDecoderBufferThenRestReadsAsFreshFrameRow.holds Try.pinned (OpenSpec.ofChange fnDecoderBufferThenRestReadsAsFreshFrameWrong)

/-- 'zzlaws_server_b1.FnDecoderBufferIgnoresWhatFollowsItsRecord': WHATEVER THE INPUT: true; the input reads as it did. -/
def fnDecoderBufferIgnoresWhatFollowsItsRecordSpec : ChangeSpec := { name := "fnDecoderBufferIgnoresWhatFollowsItsRecord", fn := fun _ => fun
  | [d1, d2] => { results := [.lit (.bool true)], args := [d1, d2] }
  | _ => none }
def fnDecoderBufferIgnoresWhatFollowsItsRecordRow : OpenClaim := { program := "qxb6614386a", sum := "2788594101e64fa2995e76731a52c68bde0bc8f943746393f87b249418c72e6e", func := "example.com/zlatch/zlatch/zzlaws_server_b1.FnDecoderBufferIgnoresWhatFollowsItsRecord", spec := "fnDecoderBufferIgnoresWhatFollowsItsRecord", named := ["encoding/binary.BigEndian"], apart := false }
def FnDecoderBufferIgnoresWhatFollowsItsRecordSaid : Prop := fnDecoderBufferIgnoresWhatFollowsItsRecordRow.holds Try.pinned (OpenSpec.ofChange fnDecoderBufferIgnoresWhatFollowsItsRecordSpec)

/-- ITS FALSE NEIGHBOUR: 'it returns false'. Refute it at one input. -/
def fnDecoderBufferIgnoresWhatFollowsItsRecordWrong : ChangeSpec := { name := "fnDecoderBufferIgnoresWhatFollowsItsRecord", fn := fun _ => fun
  | [d1, d2] => { results := [.lit (.bool false)], args := [d1, d2] }
  | _ => none }
def FnDecoderBufferIgnoresWhatFollowsItsRecordWrongFalsely : Prop := fnDecoderBufferIgnoresWhatFollowsItsRecordRow.holds Try.pinned (OpenSpec.ofChange fnDecoderBufferIgnoresWhatFollowsItsRecordWrong)

/-- 'zzlaws_server_b1.FnDecoderCountTellsTheLengthBufferReads': WHATEVER THE INPUT: true; the input reads as it did. -/
def fnDecoderCountTellsTheLengthBufferReadsSpec : ChangeSpec := { name := "fnDecoderCountTellsTheLengthBufferReads", fn := fun _ => fun
  | [d] => { results := [.lit (.bool true)], args := [d] }
  | _ => none }
def fnDecoderCountTellsTheLengthBufferReadsRow : OpenClaim := { program := "qxb6614386a", sum := "2788594101e64fa2995e76731a52c68bde0bc8f943746393f87b249418c72e6e", func := "example.com/zlatch/zlatch/zzlaws_server_b1.FnDecoderCountTellsTheLengthBufferReads", spec := "fnDecoderCountTellsTheLengthBufferReads", named := ["encoding/binary.BigEndian"], apart := false }
def FnDecoderCountTellsTheLengthBufferReadsSaid : Prop := fnDecoderCountTellsTheLengthBufferReadsRow.holds Try.pinned (OpenSpec.ofChange fnDecoderCountTellsTheLengthBufferReadsSpec)

/-- ITS FALSE NEIGHBOUR: 'it returns false'. Refute it at one input. -/
def fnDecoderCountTellsTheLengthBufferReadsWrong : ChangeSpec := { name := "fnDecoderCountTellsTheLengthBufferReads", fn := fun _ => fun
  | [d] => { results := [.lit (.bool false)], args := [d] }
  | _ => none }
def FnDecoderCountTellsTheLengthBufferReadsWrongFalsely : Prop := fnDecoderCountTellsTheLengthBufferReadsRow.holds Try.pinned (OpenSpec.ofChange fnDecoderCountTellsTheLengthBufferReadsWrong)

/-- 'zzlaws_server_b1.FnDecoderCountLooserMinElemAcceptsMore': WHATEVER THE INPUT: true; the input reads as it did. -/
def fnDecoderCountLooserMinElemAcceptsMoreSpec : ChangeSpec := { name := "fnDecoderCountLooserMinElemAcceptsMore", fn := fun _ => fun
  | [d1, d2, d3] => { results := [.lit (.bool true)], args := [d1, d2, d3] }
  | _ => none }
def fnDecoderCountLooserMinElemAcceptsMoreRow : OpenClaim := { program := "qxb6614386a", sum := "2788594101e64fa2995e76731a52c68bde0bc8f943746393f87b249418c72e6e", func := "example.com/zlatch/zlatch/zzlaws_server_b1.FnDecoderCountLooserMinElemAcceptsMore", spec := "fnDecoderCountLooserMinElemAcceptsMore", named := ["encoding/binary.BigEndian"], apart := false }
def FnDecoderCountLooserMinElemAcceptsMoreSaid : Prop := fnDecoderCountLooserMinElemAcceptsMoreRow.holds Try.pinned (OpenSpec.ofChange fnDecoderCountLooserMinElemAcceptsMoreSpec)

/-- ITS FALSE NEIGHBOUR: 'it returns false'. Refute it at one input. -/
def fnDecoderCountLooserMinElemAcceptsMoreWrong : ChangeSpec := { name := "fnDecoderCountLooserMinElemAcceptsMore", fn := fun _ => fun
  | [d1, d2, d3] => { results := [.lit (.bool false)], args := [d1, d2, d3] }
  | _ => none }
def FnDecoderCountLooserMinElemAcceptsMoreWrongFalsely : Prop := fnDecoderCountLooserMinElemAcceptsMoreRow.holds Try.pinned (OpenSpec.ofChange fnDecoderCountLooserMinElemAcceptsMoreWrong)

end Rows
end Go.Proofs.Qxb6614386a
