/-
  No cell of these rows narrows 'for every input' (looked for: loops, veiled, ifaces, maps, wideKeys, modest, calm, conditions, laid).
  DERIVED. THE GIVEN ROWS OF THIS SEAT. 2 by the template 'for every input the law returns true; each argument reads behind the call as it read before'; 0 by the template 'total and deterministic' (their statements: Qxb6628544aTotals.lean).
  GIVEN WITH THE SEED: the statements are not yours to turn. If you find one false, say at which input.
  Laid BY PROGRAM, IN A SANDBOX (cutbox-rows.mjs): the forced cells as the released guide's own fill.sh prints them over the translation 5ec215031f198a47… (all of the seat's roots in one cut). By AI agents, Wed Nov 11 2026. No macro, syntax, notation, axiom, sorry.
-/
import Derived.Test.Qxb6628544aChecked
import GoSem.Claim
import GoSem.ClaimJoined
import GoSem.ClaimMapViews
import Derived.JoinedTies
import Derived.KernelRfl
namespace Go.Proofs.Qxb6628544a
/- THE CELL 'sum', in the pinned program and in every row, IS THE sha256 OF THE DUMP (.gsa) THAT Qxb6628544aProg.lean LOADS. Nothing in Lean hashes anything: it is a label: what it is worth is what the hold of that sum in a sandbox is worth. -/
noncomputable def Try.pinned : Pinned := { name := "qxb6628544a", sum := "5ec215031f198a479bb618919fd3b40047c8db3099f1b9ce163e617dde2ed0ca", checked := Try.checked }
namespace Rows
def none {H : Type} : Left H := { results := [], args := [] }

/-- 'zzlaws_bearer_b1.FnHasInsertGrants': WHATEVER THE INPUT: true; the input reads as it did. -/
def fnHasInsertGrantsSpec : ChangeSpec := { name := "fnHasInsertGrants", fn := fun _ => fun
  | [d1, d2, d3] => { results := [.lit (.bool true)], args := [d1, d2, d3] }
  | _ => none }
def fnHasInsertGrantsRow : OpenClaim := { program := "qxb6628544a", sum := "5ec215031f198a479bb618919fd3b40047c8db3099f1b9ce163e617dde2ed0ca", func := "example.com/inked-seal/inked-seal/zzlaws_bearer_b1.FnHasInsertGrants", spec := "fnHasInsertGrants", apart := false }
def FnHasInsertGrantsSaid : Prop := fnHasInsertGrantsRow.holds Try.pinned (OpenSpec.ofChange fnHasInsertGrantsSpec)

/-- ITS FALSE NEIGHBOUR: 'it returns false'. Refute it at one input. -/
def fnHasInsertGrantsWrong : ChangeSpec := { name := "fnHasInsertGrants", fn := fun _ => fun
  | [d1, d2, d3] => { results := [.lit (.bool false)], args := [d1, d2, d3] }
  | _ => none }
def FnHasInsertGrantsWrongFalsely : Prop := fnHasInsertGrantsRow.holds Try.pinned (OpenSpec.ofChange fnHasInsertGrantsWrong)

/-- 'zzlaws_bearer_b1.FnHasCutAgrees': WHATEVER THE INPUT: true; the input reads as it did. -/
def fnHasCutAgreesSpec : ChangeSpec := { name := "fnHasCutAgrees", fn := fun _ => fun
  | [d1, d2, d3] => { results := [.lit (.bool true)], args := [d1, d2, d3] }
  | _ => none }
def fnHasCutAgreesRow : OpenClaim := { program := "qxb6628544a", sum := "5ec215031f198a479bb618919fd3b40047c8db3099f1b9ce163e617dde2ed0ca", func := "example.com/inked-seal/inked-seal/zzlaws_bearer_b1.FnHasCutAgrees", spec := "fnHasCutAgrees", apart := false }
def FnHasCutAgreesSaid : Prop := fnHasCutAgreesRow.holds Try.pinned (OpenSpec.ofChange fnHasCutAgreesSpec)

/-- ITS FALSE NEIGHBOUR: 'it returns false'. Refute it at one input. -/
def fnHasCutAgreesWrong : ChangeSpec := { name := "fnHasCutAgrees", fn := fun _ => fun
  | [d1, d2, d3] => { results := [.lit (.bool false)], args := [d1, d2, d3] }
  | _ => none }
def FnHasCutAgreesWrongFalsely : Prop := fnHasCutAgreesRow.holds Try.pinned (OpenSpec.ofChange fnHasCutAgreesWrong)

end Rows
end Go.Proofs.Qxb6628544a
