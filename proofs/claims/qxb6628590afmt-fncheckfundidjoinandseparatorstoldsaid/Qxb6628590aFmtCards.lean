/-
  DERIVED. GIVEN WITH THE SEED: THE CARDS: each row of Qxb6628590aFmtRows.lean that lists a variable, with what it lists TIED to the program's text (the seventh form; the later family's looks); each row that meets fmt, with fmt's text TOLD by the authors' own Lean function (tested against real Go, not proved from fmt's source: count such statements apart). THE CARD IS WHAT COUNTS. Prove the row's statement (the work); the ties are given (Qxb6628590aFmtTie.lean); close each card by the builder's one call (the guide's Derived/Test/ToyasCard.lean, 'card_holds'). Laid BY PROGRAM, IN A SANDBOX (cutbox-door.mjs). By AI agents, Wed Nov 11 2026. No macro, syntax, notation, axiom, sorry.
-/
import Derived.Test.Qxb6628590aFmtRows
import GoSem.ClaimSeven
namespace Go.Proofs.Qxb6628590aFmt
namespace Rows

/-- THE TOLD CARD OF 'zzlaws_terms_b1.FnCheckFundIDAcceptsExactlyNameBytes'. -/
def fnCheckFundIDAcceptsExactlyNameBytesCard : Claim7 := { stood := { row := fnCheckFundIDAcceptsExactlyNameBytesRow, standIns := [], harness := (true, "d88487fbf0249f6b06d719f96c7e407cb1e0b2b8d67ed109e5f88426da65c9e2"), looks := false }, told := true, goes := false }
def FnCheckFundIDAcceptsExactlyNameBytesToldSaid : Prop := Claim7.holds Tryf.pinned (.plain (OpenSpec.ofChange fnCheckFundIDAcceptsExactlyNameBytesSpec)) fnCheckFundIDAcceptsExactlyNameBytesCard
/-- ITS FALSE NEIGHBOUR. Refute it at one input. -/
def FnCheckFundIDAcceptsExactlyNameBytesToldWrongFalsely : Prop := Claim7.holds Tryf.pinned (.plain (OpenSpec.ofChange fnCheckFundIDAcceptsExactlyNameBytesWrong)) fnCheckFundIDAcceptsExactlyNameBytesCard

/-- THE TOLD CARD OF 'zzlaws_terms_b1.FnCheckFundIDJoinAndSeparators'. -/
def fnCheckFundIDJoinAndSeparatorsCard : Claim7 := { stood := { row := fnCheckFundIDJoinAndSeparatorsRow, standIns := [], harness := (true, "d88487fbf0249f6b06d719f96c7e407cb1e0b2b8d67ed109e5f88426da65c9e2"), looks := false }, told := true, goes := false }
def FnCheckFundIDJoinAndSeparatorsToldSaid : Prop := Claim7.holds Tryf.pinned (.plain (OpenSpec.ofChange fnCheckFundIDJoinAndSeparatorsSpec)) fnCheckFundIDJoinAndSeparatorsCard
/-- ITS FALSE NEIGHBOUR. Refute it at one input. -/
def FnCheckFundIDJoinAndSeparatorsToldWrongFalsely : Prop := Claim7.holds Tryf.pinned (.plain (OpenSpec.ofChange fnCheckFundIDJoinAndSeparatorsWrong)) fnCheckFundIDJoinAndSeparatorsCard
end Rows
end Go.Proofs.Qxb6628590aFmt
