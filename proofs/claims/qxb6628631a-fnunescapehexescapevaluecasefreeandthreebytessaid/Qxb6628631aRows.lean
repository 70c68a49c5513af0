/-
  No cell of these rows narrows 'for every input' (looked for: loops, veiled, ifaces, maps, wideKeys, modest, calm, conditions, laid).
  DERIVED. THE GIVEN ROWS OF THIS SEAT. 2 by the template 'for every input the law returns true; each argument reads behind the call as it read before'; 0 by the template 'total and deterministic' (their statements: Qxb6628631aTotals.lean).
  GIVEN WITH THE SEED: the statements are not yours to turn. If you find one false, say at which input.
  Laid BY PROGRAM, IN A SANDBOX (cutbox-rows.mjs): the forced cells as the released guide's own fill.sh prints them over the translation 3dd08044f104968e… (all of the seat's roots in one cut). By AI agents, Wed Nov 11 2026. No macro, syntax, notation, axiom, sorry.
-/
import Derived.Test.Qxb6628631aChecked
import GoSem.Claim
import GoSem.ClaimJoined
import GoSem.ClaimMapViews
import Derived.JoinedTies
import Derived.KernelRfl
namespace Go.Proofs.Qxb6628631a
/- THE CELL 'sum', in the pinned program and in every row, IS THE sha256 OF THE DUMP (.gsa) THAT Qxb6628631aProg.lean LOADS. Nothing in Lean hashes anything: it is a label: what it is worth is what the hold of that sum in a sandbox is worth. -/
noncomputable def Try.pinned : Pinned := { name := "qxb6628631a", sum := "3dd08044f104968eb1065077f261a5340a9e2fd49261f38fd01803c5d29e03e3", checked := Try.checked }
namespace Rows
def none {H : Type} : Left H := { results := [], args := [] }

/-- 'zzlaws_internal_resp_b1.FnUnescapeHexEscapeValueCaseFreeAndThreeBytes': WHATEVER THE INPUT: true; the input reads as it did. -/
def fnUnescapeHexEscapeValueCaseFreeAndThreeBytesSpec : ChangeSpec := { name := "fnUnescapeHexEscapeValueCaseFreeAndThreeBytes", fn := fun _ => fun
  | [d1, d2] => { results := [.lit (.bool true)], args := [d1, d2] }
  | _ => none }
def fnUnescapeHexEscapeValueCaseFreeAndThreeBytesRow : OpenClaim := { program := "qxb6628631a", sum := "3dd08044f104968eb1065077f261a5340a9e2fd49261f38fd01803c5d29e03e3", func := "example.com/proviso/proviso/zzlaws_internal_resp_b1.FnUnescapeHexEscapeValueCaseFreeAndThreeBytes", spec := "fnUnescapeHexEscapeValueCaseFreeAndThreeBytes", apart := false }
def FnUnescapeHexEscapeValueCaseFreeAndThreeBytesSaid : Prop := fnUnescapeHexEscapeValueCaseFreeAndThreeBytesRow.holds Try.pinned (OpenSpec.ofChange fnUnescapeHexEscapeValueCaseFreeAndThreeBytesSpec)

/-- ITS FALSE NEIGHBOUR: 'it returns false'. Refute it at one input. -/
def fnUnescapeHexEscapeValueCaseFreeAndThreeBytesWrong : ChangeSpec := { name := "fnUnescapeHexEscapeValueCaseFreeAndThreeBytes", fn := fun _ => fun
  | [d1, d2] => { results := [.lit (.bool false)], args := [d1, d2] }
  | _ => none }
def FnUnescapeHexEscapeValueCaseFreeAndThreeBytesWrongFalsely : Prop := fnUnescapeHexEscapeValueCaseFreeAndThreeBytesRow.holds Try.pinned (OpenSpec.ofChange fnUnescapeHexEscapeValueCaseFreeAndThreeBytesWrong)

/-- 'zzlaws_internal_resp_b1.FnUnescapeOneByteEscapeIsCControlCodeOrItself': WHATEVER THE INPUT: true; the input reads as it did. -/
def fnUnescapeOneByteEscapeIsCControlCodeOrItselfSpec : ChangeSpec := { name := "fnUnescapeOneByteEscapeIsCControlCodeOrItself", fn := fun _ => fun
  | [d] => { results := [.lit (.bool true)], args := [d] }
  | _ => none }
def fnUnescapeOneByteEscapeIsCControlCodeOrItselfRow : OpenClaim := { program := "qxb6628631a", sum := "3dd08044f104968eb1065077f261a5340a9e2fd49261f38fd01803c5d29e03e3", func := "example.com/proviso/proviso/zzlaws_internal_resp_b1.FnUnescapeOneByteEscapeIsCControlCodeOrItself", spec := "fnUnescapeOneByteEscapeIsCControlCodeOrItself", apart := false }
def FnUnescapeOneByteEscapeIsCControlCodeOrItselfSaid : Prop := fnUnescapeOneByteEscapeIsCControlCodeOrItselfRow.holds Try.pinned (OpenSpec.ofChange fnUnescapeOneByteEscapeIsCControlCodeOrItselfSpec)

/-- ITS FALSE NEIGHBOUR: 'it returns false'. Refute it at one input. -/
def fnUnescapeOneByteEscapeIsCControlCodeOrItselfWrong : ChangeSpec := { name := "fnUnescapeOneByteEscapeIsCControlCodeOrItself", fn := fun _ => fun
  | [d] => { results := [.lit (.bool false)], args := [d] }
  | _ => none }
def FnUnescapeOneByteEscapeIsCControlCodeOrItselfWrongFalsely : Prop := fnUnescapeOneByteEscapeIsCControlCodeOrItselfRow.holds Try.pinned (OpenSpec.ofChange fnUnescapeOneByteEscapeIsCControlCodeOrItselfWrong)

end Rows
end Go.Proofs.Qxb6628631a
