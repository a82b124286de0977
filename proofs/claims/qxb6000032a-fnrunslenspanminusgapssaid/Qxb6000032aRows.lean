/-
  No cell of these rows narrows 'for every input' (looked for: loops, veiled, ifaces, maps, wideKeys, modest, calm, conditions, laid).
  DERIVED. THE GIVEN ROWS OF THIS SEAT. 3 by the template 'for every input the law returns true; each argument reads behind the call as it read before'; 0 by the template 'total and deterministic' (their statements: Qxb6000032aTotals.lean).
  GIVEN WITH THE SEED: the statements are not yours to turn. If you find one false, say at which input.
  Laid BY PROGRAM, IN A SANDBOX (cutbox-rows.mjs): the forced cells as the released guide's own fill.sh prints them over the translation 3f48de56a407a6eb… (all of the seat's roots in one cut). By AI agents, Wed Nov 11 2026. No macro, syntax, notation, axiom, sorry.
-/
import Derived.Test.Qxb6000032aChecked
import GoSem.Claim
import GoSem.ClaimJoined
import GoSem.ClaimMapViews
import Derived.JoinedTies
import Derived.KernelRfl
namespace Go.Proofs.Qxb6000032a
/- THE CELL 'sum', in the pinned program and in every row, IS THE sha256 OF THE DUMP (.gsa) THAT Qxb6000032aProg.lean LOADS. Nothing in Lean hashes anything: it is a label: what it is worth is what the hold of that sum in a sandbox is worth. -/
noncomputable def Try.pinned : Pinned := { name := "qxb6000032a", sum := "3f48de56a407a6eb96afd31768a090b2e2a0ec8ad707eb1dc5fa6f3559ae1d69", checked := Try.checked }
namespace Rows
def none {H : Type} : Left H := { results := [], args := [] }

/-- 'zzlaws_internal_output_b1.FnRunsLenSpanMinusGaps': WHATEVER THE INPUT: true; the input reads as it did. -/
def fnRunsLenSpanMinusGapsSpec : ChangeSpec := { name := "fnRunsLenSpanMinusGaps", fn := fun _ => fun
  | [d1, d2] => { results := [.lit (.bool true)], args := [d1, d2] }
  | _ => none }
def fnRunsLenSpanMinusGapsRow : OpenClaim := { program := "qxb6000032a", sum := "3f48de56a407a6eb96afd31768a090b2e2a0ec8ad707eb1dc5fa6f3559ae1d69", func := "example.com/wardkeep/wardkeep/zzlaws_internal_output_b1.FnRunsLenSpanMinusGaps", spec := "fnRunsLenSpanMinusGaps", apart := false }
def FnRunsLenSpanMinusGapsSaid : Prop := fnRunsLenSpanMinusGapsRow.holds Try.pinned (OpenSpec.ofChange fnRunsLenSpanMinusGapsSpec)

/-- ITS FALSE NEIGHBOUR: 'it returns false'. Refute it at one input. -/
def fnRunsLenSpanMinusGapsWrong : ChangeSpec := { name := "fnRunsLenSpanMinusGaps", fn := fun _ => fun
  | [d1, d2] => { results := [.lit (.bool false)], args := [d1, d2] }
  | _ => none }
def FnRunsLenSpanMinusGapsWrongFalsely : Prop := fnRunsLenSpanMinusGapsRow.holds Try.pinned (OpenSpec.ofChange fnRunsLenSpanMinusGapsWrong)

/-- 'zzlaws_internal_output_b1.FnRunsLenAdditive': WHATEVER THE INPUT: true; the input reads as it did. -/
def fnRunsLenAdditiveSpec : ChangeSpec := { name := "fnRunsLenAdditive", fn := fun _ => fun
  | [d1, d2, d3, d4] => { results := [.lit (.bool true)], args := [d1, d2, d3, d4] }
  | _ => none }
def fnRunsLenAdditiveRow : OpenClaim := { program := "qxb6000032a", sum := "3f48de56a407a6eb96afd31768a090b2e2a0ec8ad707eb1dc5fa6f3559ae1d69", func := "example.com/wardkeep/wardkeep/zzlaws_internal_output_b1.FnRunsLenAdditive", spec := "fnRunsLenAdditive", apart := false }
def FnRunsLenAdditiveSaid : Prop := fnRunsLenAdditiveRow.holds Try.pinned (OpenSpec.ofChange fnRunsLenAdditiveSpec)

/-- ITS FALSE NEIGHBOUR: 'it returns false'. Refute it at one input. -/
def fnRunsLenAdditiveWrong : ChangeSpec := { name := "fnRunsLenAdditive", fn := fun _ => fun
  | [d1, d2, d3, d4] => { results := [.lit (.bool false)], args := [d1, d2, d3, d4] }
  | _ => none }
def FnRunsLenAdditiveWrongFalsely : Prop := fnRunsLenAdditiveRow.holds Try.pinned (OpenSpec.ofChange fnRunsLenAdditiveWrong)

/-- 'zzlaws_internal_output_b1.FnRunsLenSplitKeeps': WHATEVER THE INPUT: true; the input reads as it did. -/
def fnRunsLenSplitKeepsSpec : ChangeSpec := { name := "fnRunsLenSplitKeeps", fn := fun _ => fun
  | [d1, d2, d3, d4] => { results := [.lit (.bool true)], args := [d1, d2, d3, d4] }
  | _ => none }
def fnRunsLenSplitKeepsRow : OpenClaim := { program := "qxb6000032a", sum := "3f48de56a407a6eb96afd31768a090b2e2a0ec8ad707eb1dc5fa6f3559ae1d69", func := "example.com/wardkeep/wardkeep/zzlaws_internal_output_b1.FnRunsLenSplitKeeps", spec := "fnRunsLenSplitKeeps", apart := false }
def FnRunsLenSplitKeepsSaid : Prop := fnRunsLenSplitKeepsRow.holds Try.pinned (OpenSpec.ofChange fnRunsLenSplitKeepsSpec)

/-- ITS FALSE NEIGHBOUR: 'it returns false'. Refute it at one input. -/
def fnRunsLenSplitKeepsWrong : ChangeSpec := { name := "fnRunsLenSplitKeeps", fn := fun _ => fun
  | [d1, d2, d3, d4] => { results := [.lit (.bool false)], args := [d1, d2, d3, d4] }
  | _ => none }
def FnRunsLenSplitKeepsWrongFalsely : Prop := fnRunsLenSplitKeepsRow.holds Try.pinned (OpenSpec.ofChange fnRunsLenSplitKeepsWrong)

end Rows
end Go.Proofs.Qxb6000032a
