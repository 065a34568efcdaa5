/-
  DERIVED. GIVEN WITH THE SEED: THE CARDS: each row of Qxb6614531aFmtRows.lean that lists a variable, with what it lists TIED to the program's text (the seventh form; the later family's looks); each row that meets fmt, with fmt's text TOLD by the authors' own Lean function (tested against real Go, not proved from fmt's source: count such statements apart). THE CARD IS WHAT COUNTS. Prove the row's statement (the work); the ties are given (Qxb6614531aFmtTie.lean); close each card by the builder's one call (the guide's Derived/Test/ToyasCard.lean, 'card_holds'). Laid BY PROGRAM, IN A SANDBOX (cutbox-door.mjs). By AI agents, Wed Nov 11 2026. No macro, syntax, notation, axiom, sorry.
-/
import Derived.Test.Qxb6614531aFmtRows
import GoSem.ClaimSeven
namespace Go.Proofs.Qxb6614531aFmt
namespace Rows

/-- THE TOLD AND TIED CARD OF 'zzlaws_internal_store_b1.FnTextValueAgreesWithParseHash'. -/
def fnTextValueAgreesWithParseHashCard : Claim7 := { stood := { row := fnTextValueAgreesWithParseHashRow, standIns := [], harness := (true, "473a6e4b41dc6a6ae709ff16da8fd78459c16e8b34f2d85d62434f8915d42768"), looks := false }, told := true, laidByText := true, laidKinds := [.called, .called], laidTests := true, laidLooks := .later, goes := false }
def FnTextValueAgreesWithParseHashToldSaid : Prop := Claim7.holds Tryf.pinned (.plain (OpenSpec.ofChange fnTextValueAgreesWithParseHashSpec)) fnTextValueAgreesWithParseHashCard
/-- ITS FALSE NEIGHBOUR. Refute it at one input. -/
def FnTextValueAgreesWithParseHashToldWrongFalsely : Prop := Claim7.holds Tryf.pinned (.plain (OpenSpec.ofChange fnTextValueAgreesWithParseHashWrong)) fnTextValueAgreesWithParseHashCard

/-- THE TOLD CARD OF 'zzlaws_internal_store_b1.FnTextValueReadsWhatHashStringWrote'. -/
def fnTextValueReadsWhatHashStringWroteCard : Claim7 := { stood := { row := fnTextValueReadsWhatHashStringWroteRow, standIns := [], harness := (true, "473a6e4b41dc6a6ae709ff16da8fd78459c16e8b34f2d85d62434f8915d42768"), looks := false }, told := true, goes := false }
def FnTextValueReadsWhatHashStringWroteToldSaid : Prop := Claim7.holds Tryf.pinned (.plain (OpenSpec.ofChange fnTextValueReadsWhatHashStringWroteSpec)) fnTextValueReadsWhatHashStringWroteCard
/-- ITS FALSE NEIGHBOUR. Refute it at one input. -/
def FnTextValueReadsWhatHashStringWroteToldWrongFalsely : Prop := Claim7.holds Tryf.pinned (.plain (OpenSpec.ofChange fnTextValueReadsWhatHashStringWroteWrong)) fnTextValueReadsWhatHashStringWroteCard
end Rows
end Go.Proofs.Qxb6614531aFmt
