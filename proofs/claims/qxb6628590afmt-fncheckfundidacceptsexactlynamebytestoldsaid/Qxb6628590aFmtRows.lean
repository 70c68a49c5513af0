/-
  No cell of these rows narrows 'for every input' (looked for: loops, veiled, ifaces, maps, wideKeys, modest, calm, conditions, laid).
  DERIVED. THE GIVEN ROWS OF THIS SEAT. 2 by the template 'for every input the law returns true; each argument reads behind the call as it read before'; 0 by the template 'total and deterministic' (their statements: Qxb6628590aFmtTotals.lean).
  GIVEN WITH THE SEED: the statements are not yours to turn. If you find one false, say at which input.
  Laid BY PROGRAM, IN A SANDBOX (cutbox-rows.mjs): the forced cells as the released guide's own fill.sh prints them over the translation de82e4c18037adf2… (all of the seat's roots in one cut). By AI agents, Wed Nov 11 2026. No macro, syntax, notation, axiom, sorry.
-/
import Derived.Test.Qxb6628590aFmtChecked
import GoSem.Claim
import GoSem.ClaimJoined
import GoSem.ClaimMapViews
import Derived.JoinedTies
import Derived.KernelRfl
namespace Go.Proofs.Qxb6628590aFmt
/- THE CELL 'sum', in the pinned program and in every row, IS THE sha256 OF THE DUMP (.gsa) THAT Qxb6628590aFmtProg.lean LOADS. Nothing in Lean hashes anything: it is a label: what it is worth is what the hold of that sum in a sandbox is worth. -/
noncomputable def Tryf.pinned : Pinned := { name := "qxb6628590afmt", sum := "de82e4c18037adf281881747fd6bad69568032621cde139da489a64c58b0cda0", checked := Tryf.checked }
namespace Rows
def none {H : Type} : Left H := { results := [], args := [] }

/-- 'zzlaws_terms_b1.FnCheckFundIDAcceptsExactlyNameBytes': WHATEVER THE INPUT: true; the input reads as it did. -/
def fnCheckFundIDAcceptsExactlyNameBytesSpec : ChangeSpec := { name := "fnCheckFundIDAcceptsExactlyNameBytes", fn := fun _ => fun
  | [d] => { results := [.lit (.bool true)], args := [d] }
  | _ => none }
def fnCheckFundIDAcceptsExactlyNameBytesRow : OpenClaim := { program := "qxb6628590afmt", sum := "de82e4c18037adf281881747fd6bad69568032621cde139da489a64c58b0cda0", func := "example.com/tuoguan/tuoguan/zzlaws_terms_b1.FnCheckFundIDAcceptsExactlyNameBytes", spec := "fnCheckFundIDAcceptsExactlyNameBytes", stops := ["fmt.errorf"], inPlace := ["fmt.errorf"], apart := false }
/-- NO THEOREM (fmt's text is open here; it may be false): for the released tool's asking of the row's closed facts alone. THE STATEMENT IS 'FnCheckFundIDAcceptsExactlyNameBytesToldSaid' (Qxb6628590aFmtCards.lean). -/
def FnCheckFundIDAcceptsExactlyNameBytesFormAsk : Prop := fnCheckFundIDAcceptsExactlyNameBytesRow.holds Tryf.pinned (OpenSpec.ofChange fnCheckFundIDAcceptsExactlyNameBytesSpec)

/-- ITS FALSE NEIGHBOUR: 'it returns false'. Refute it at one input. -/
def fnCheckFundIDAcceptsExactlyNameBytesWrong : ChangeSpec := { name := "fnCheckFundIDAcceptsExactlyNameBytes", fn := fun _ => fun
  | [d] => { results := [.lit (.bool false)], args := [d] }
  | _ => none }
def FnCheckFundIDAcceptsExactlyNameBytesWrongFormAsk : Prop := fnCheckFundIDAcceptsExactlyNameBytesRow.holds Tryf.pinned (OpenSpec.ofChange fnCheckFundIDAcceptsExactlyNameBytesWrong)

/-- 'zzlaws_terms_b1.FnCheckFundIDJoinAndSeparators': WHATEVER THE INPUT: true; the input reads as it did. -/
def fnCheckFundIDJoinAndSeparatorsSpec : ChangeSpec := { name := "fnCheckFundIDJoinAndSeparators", fn := fun _ => fun
  | [d1, d2] => { results := [.lit (.bool true)], args := [d1, d2] }
  | _ => none }
def fnCheckFundIDJoinAndSeparatorsRow : OpenClaim := { program := "qxb6628590afmt", sum := "de82e4c18037adf281881747fd6bad69568032621cde139da489a64c58b0cda0", func := "example.com/tuoguan/tuoguan/zzlaws_terms_b1.FnCheckFundIDJoinAndSeparators", spec := "fnCheckFundIDJoinAndSeparators", stops := ["fmt.errorf"], inPlace := ["fmt.errorf"], apart := false }
/-- NO THEOREM (fmt's text is open here; it may be false): for the released tool's asking of the row's closed facts alone. THE STATEMENT IS 'FnCheckFundIDJoinAndSeparatorsToldSaid' (Qxb6628590aFmtCards.lean). -/
def FnCheckFundIDJoinAndSeparatorsFormAsk : Prop := fnCheckFundIDJoinAndSeparatorsRow.holds Tryf.pinned (OpenSpec.ofChange fnCheckFundIDJoinAndSeparatorsSpec)

/-- ITS FALSE NEIGHBOUR: 'it returns false'. Refute it at one input. -/
def fnCheckFundIDJoinAndSeparatorsWrong : ChangeSpec := { name := "fnCheckFundIDJoinAndSeparators", fn := fun _ => fun
  | [d1, d2] => { results := [.lit (.bool false)], args := [d1, d2] }
  | _ => none }
def FnCheckFundIDJoinAndSeparatorsWrongFormAsk : Prop := fnCheckFundIDJoinAndSeparatorsRow.holds Tryf.pinned (OpenSpec.ofChange fnCheckFundIDJoinAndSeparatorsWrong)

end Rows
end Go.Proofs.Qxb6628590aFmt
