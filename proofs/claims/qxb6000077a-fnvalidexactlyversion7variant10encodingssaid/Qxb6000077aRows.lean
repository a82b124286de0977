/-
  No cell of these rows narrows 'for every input' (looked for: loops, veiled, ifaces, maps, wideKeys, modest, calm, conditions, laid).
  DERIVED. THE GIVEN ROWS OF THIS SEAT. 3 by the template 'for every input the law returns true; each argument reads behind the call as it read before'; 0 by the template 'total and deterministic' (their statements: Qxb6000077aTotals.lean).
  GIVEN WITH THE SEED: the statements are not yours to turn. If you find one false, say at which input.
  Laid BY PROGRAM, IN A SANDBOX (cutbox-rows.mjs): the forced cells as the released guide's own fill.sh prints them over the translation af296841b1c6f8f3… (all of the seat's roots in one cut). By AI agents, Wed Nov 11 2026. No macro, syntax, notation, axiom, sorry.
-/
import Derived.Test.Qxb6000077aChecked
import GoSem.Claim
import GoSem.ClaimJoined
import GoSem.ClaimMapViews
import Derived.JoinedTies
import Derived.KernelRfl
namespace Go.Proofs.Qxb6000077a
/- THE CELL 'sum', in the pinned program and in every row, IS THE sha256 OF THE DUMP (.gsa) THAT Qxb6000077aProg.lean LOADS. Nothing in Lean hashes anything: it is a label: what it is worth is what the hold of that sum in a sandbox is worth. -/
noncomputable def Try.pinned : Pinned := { name := "qxb6000077a", sum := "af296841b1c6f8f35ffae192851e86b05ac9229c70a845c730b88f6911366e2e", checked := Try.checked }
namespace Rows
def none {H : Type} : Left H := { results := [], args := [] }

/-- 'zzlaws_internal_uuidv7_b1.FnValidMatchesSegmentModel': WHATEVER THE INPUT: true; the input reads as it did. -/
def fnValidMatchesSegmentModelSpec : ChangeSpec := { name := "fnValidMatchesSegmentModel", fn := fun _ => fun
  | [d] => { results := [.lit (.bool true)], args := [d] }
  | _ => none }
def fnValidMatchesSegmentModelRow : OpenClaim := { program := "qxb6000077a", sum := "af296841b1c6f8f35ffae192851e86b05ac9229c70a845c730b88f6911366e2e", func := "example.com/jobwire/jobwire/zzlaws_internal_uuidv7_b1.FnValidMatchesSegmentModel", spec := "fnValidMatchesSegmentModel", apart := false }
def FnValidMatchesSegmentModelSaid : Prop := fnValidMatchesSegmentModelRow.holds Try.pinned (OpenSpec.ofChange fnValidMatchesSegmentModelSpec)

/-- ITS FALSE NEIGHBOUR: 'it returns false'. Refute it at one input. -/
def fnValidMatchesSegmentModelWrong : ChangeSpec := { name := "fnValidMatchesSegmentModel", fn := fun _ => fun
  | [d] => { results := [.lit (.bool false)], args := [d] }
  | _ => none }
def FnValidMatchesSegmentModelWrongFalsely : Prop := fnValidMatchesSegmentModelRow.holds Try.pinned (OpenSpec.ofChange fnValidMatchesSegmentModelWrong)

/-- 'zzlaws_internal_uuidv7_b1.FnValidExactlyVersion7Variant10Encodings': WHATEVER THE INPUT: true; the input reads as it did. -/
def fnValidExactlyVersion7Variant10EncodingsSpec : ChangeSpec := { name := "fnValidExactlyVersion7Variant10Encodings", fn := fun _ => fun
  | [d] => { results := [.lit (.bool true)], args := [d] }
  | _ => none }
def fnValidExactlyVersion7Variant10EncodingsRow : OpenClaim := { program := "qxb6000077a", sum := "af296841b1c6f8f35ffae192851e86b05ac9229c70a845c730b88f6911366e2e", func := "example.com/jobwire/jobwire/zzlaws_internal_uuidv7_b1.FnValidExactlyVersion7Variant10Encodings", spec := "fnValidExactlyVersion7Variant10Encodings", apart := false }
def FnValidExactlyVersion7Variant10EncodingsSaid : Prop := fnValidExactlyVersion7Variant10EncodingsRow.holds Try.pinned (OpenSpec.ofChange fnValidExactlyVersion7Variant10EncodingsSpec)

/-- ITS FALSE NEIGHBOUR: 'it returns false'. Refute it at one input. -/
def fnValidExactlyVersion7Variant10EncodingsWrong : ChangeSpec := { name := "fnValidExactlyVersion7Variant10Encodings", fn := fun _ => fun
  | [d] => { results := [.lit (.bool false)], args := [d] }
  | _ => none }
def FnValidExactlyVersion7Variant10EncodingsWrongFalsely : Prop := fnValidExactlyVersion7Variant10EncodingsRow.holds Try.pinned (OpenSpec.ofChange fnValidExactlyVersion7Variant10EncodingsWrong)

/-- 'zzlaws_internal_uuidv7_b1.FnValidRoundTripsThroughBytes': WHATEVER THE INPUT: true; the input reads as it did. -/
def fnValidRoundTripsThroughBytesSpec : ChangeSpec := { name := "fnValidRoundTripsThroughBytes", fn := fun _ => fun
  | [d] => { results := [.lit (.bool true)], args := [d] }
  | _ => none }
def fnValidRoundTripsThroughBytesRow : OpenClaim := { program := "qxb6000077a", sum := "af296841b1c6f8f35ffae192851e86b05ac9229c70a845c730b88f6911366e2e", func := "example.com/jobwire/jobwire/zzlaws_internal_uuidv7_b1.FnValidRoundTripsThroughBytes", spec := "fnValidRoundTripsThroughBytes", apart := false }
def FnValidRoundTripsThroughBytesSaid : Prop := fnValidRoundTripsThroughBytesRow.holds Try.pinned (OpenSpec.ofChange fnValidRoundTripsThroughBytesSpec)

/-- ITS FALSE NEIGHBOUR: 'it returns false'. Refute it at one input. -/
def fnValidRoundTripsThroughBytesWrong : ChangeSpec := { name := "fnValidRoundTripsThroughBytes", fn := fun _ => fun
  | [d] => { results := [.lit (.bool false)], args := [d] }
  | _ => none }
def FnValidRoundTripsThroughBytesWrongFalsely : Prop := fnValidRoundTripsThroughBytesRow.holds Try.pinned (OpenSpec.ofChange fnValidRoundTripsThroughBytesWrong)

end Rows
end Go.Proofs.Qxb6000077a
