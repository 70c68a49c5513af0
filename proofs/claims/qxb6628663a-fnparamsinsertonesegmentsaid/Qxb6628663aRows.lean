/-
  No cell of these rows narrows 'for every input' (looked for: loops, veiled, ifaces, maps, wideKeys, modest, calm, conditions, laid).
  DERIVED. THE GIVEN ROWS OF THIS SEAT. 2 by the template 'for every input the law returns true; each argument reads behind the call as it read before'; 0 by the template 'total and deterministic' (their statements: Qxb6628663aTotals.lean).
  GIVEN WITH THE SEED: the statements are not yours to turn. If you find one false, say at which input.
  Laid BY PROGRAM, IN A SANDBOX (cutbox-rows.mjs): the forced cells as the released guide's own fill.sh prints them over the translation 7fcdc4ed972d8ee9… (all of the seat's roots in one cut). By AI agents, Wed Nov 11 2026. No macro, syntax, notation, axiom, sorry.
-/
import Derived.Test.Qxb6628663aChecked
import GoSem.Claim
import GoSem.ClaimJoined
import GoSem.ClaimMapViews
import Derived.JoinedTies
import Derived.KernelRfl
namespace Go.Proofs.Qxb6628663a
/- THE CELL 'sum', in the pinned program and in every row, IS THE sha256 OF THE DUMP (.gsa) THAT Qxb6628663aProg.lean LOADS. Nothing in Lean hashes anything: it is a label: what it is worth is what the hold of that sum in a sandbox is worth. -/
noncomputable def Try.pinned : Pinned := { name := "qxb6628663a", sum := "7fcdc4ed972d8ee9057edf3529423fb41a742c76500a56bd4201006558e007ef", checked := Try.checked }
namespace Rows
def none {H : Type} : Left H := { results := [], args := [] }

/-- 'zzlaws_routingpath_b1.FnParamsSplitAroundAnySegment': WHATEVER THE INPUT: true; the input reads as it did. -/
def fnParamsSplitAroundAnySegmentSpec : ChangeSpec := { name := "fnParamsSplitAroundAnySegment", fn := fun _ => fun
  | [d1, d2] => { results := [.lit (.bool true)], args := [d1, d2] }
  | _ => none }
def fnParamsSplitAroundAnySegmentRow : OpenClaim := { program := "qxb6628663a", sum := "7fcdc4ed972d8ee9057edf3529423fb41a742c76500a56bd4201006558e007ef", func := "example.com/mudskipper/mudskipper/zzlaws_routingpath_b1.FnParamsSplitAroundAnySegment", spec := "fnParamsSplitAroundAnySegment", apart := false }
def FnParamsSplitAroundAnySegmentSaid : Prop := fnParamsSplitAroundAnySegmentRow.holds Try.pinned (OpenSpec.ofChange fnParamsSplitAroundAnySegmentSpec)

/-- ITS FALSE NEIGHBOUR: 'it returns false'. Refute it at one input. -/
def fnParamsSplitAroundAnySegmentWrong : ChangeSpec := { name := "fnParamsSplitAroundAnySegment", fn := fun _ => fun
  | [d1, d2] => { results := [.lit (.bool false)], args := [d1, d2] }
  | _ => none }
def FnParamsSplitAroundAnySegmentWrongFalsely : Prop := fnParamsSplitAroundAnySegmentRow.holds Try.pinned (OpenSpec.ofChange fnParamsSplitAroundAnySegmentWrong)

/-- 'zzlaws_routingpath_b1.FnParamsInsertOneSegment': WHATEVER THE INPUT: true; the input reads as it did. -/
def fnParamsInsertOneSegmentSpec : ChangeSpec := { name := "fnParamsInsertOneSegment", fn := fun _ => fun
  | [d1, d2, d3] => { results := [.lit (.bool true)], args := [d1, d2, d3] }
  | _ => none }
def fnParamsInsertOneSegmentRow : OpenClaim := { program := "qxb6628663a", sum := "7fcdc4ed972d8ee9057edf3529423fb41a742c76500a56bd4201006558e007ef", func := "example.com/mudskipper/mudskipper/zzlaws_routingpath_b1.FnParamsInsertOneSegment", spec := "fnParamsInsertOneSegment", apart := false }
def FnParamsInsertOneSegmentSaid : Prop := fnParamsInsertOneSegmentRow.holds Try.pinned (OpenSpec.ofChange fnParamsInsertOneSegmentSpec)

/-- ITS FALSE NEIGHBOUR: 'it returns false'. Refute it at one input. -/
def fnParamsInsertOneSegmentWrong : ChangeSpec := { name := "fnParamsInsertOneSegment", fn := fun _ => fun
  | [d1, d2, d3] => { results := [.lit (.bool false)], args := [d1, d2, d3] }
  | _ => none }
def FnParamsInsertOneSegmentWrongFalsely : Prop := fnParamsInsertOneSegmentRow.holds Try.pinned (OpenSpec.ofChange fnParamsInsertOneSegmentWrong)

end Rows
end Go.Proofs.Qxb6628663a
