/-
  DERIVED. GIVEN WITH THE SEED: THE CARDS: each row of Qxb6625820aFmtRows.lean that lists a variable, with what it lists TIED to the program's text (the seventh form; the later family's looks); each row that meets fmt, with fmt's text TOLD by the authors' own Lean function (tested against real Go, not proved from fmt's source: count such statements apart). THE CARD IS WHAT COUNTS. Prove the row's statement (the work); the ties are given (Qxb6625820aFmtTie.lean); close each card by the builder's one call (the guide's Derived/Test/ToyasCard.lean, 'card_holds'). Laid BY PROGRAM, IN A SANDBOX (cutbox-door.mjs). By AI agents, Wed Nov 11 2026. No macro, syntax, notation, axiom, sorry.
-/
import Derived.Test.Qxb6625820aFmtRows
import GoSem.ClaimSeven
namespace Go.Proofs.Qxb6625820aFmt
namespace Rows

/-- THE TOLD CARD OF 'zzlaws_scenario_b1.FnParseChurnAcceptedFromUntilUp'. -/
def fnParseChurnAcceptedFromUntilUpCard : Claim7 := { stood := { row := fnParseChurnAcceptedFromUntilUpRow, standIns := [], harness := (true, "03028776bcb4f847311eeade514b47d22535b6570d1ff4706aace52f7694205a"), looks := false }, told := true, goes := false }
def FnParseChurnAcceptedFromUntilUpToldSaid : Prop := Claim7.holds Tryf.pinned (.plain (OpenSpec.ofChange fnParseChurnAcceptedFromUntilUpSpec)) fnParseChurnAcceptedFromUntilUpCard
/-- ITS FALSE NEIGHBOUR. Refute it at one input. -/
def FnParseChurnAcceptedFromUntilUpToldWrongFalsely : Prop := Claim7.holds Tryf.pinned (.plain (OpenSpec.ofChange fnParseChurnAcceptedFromUntilUpWrong)) fnParseChurnAcceptedFromUntilUpCard

/-- THE TOLD CARD OF 'zzlaws_scenario_b1.FnParseChurnStayRefinesNoStay'. -/
def fnParseChurnStayRefinesNoStayCard : Claim7 := { stood := { row := fnParseChurnStayRefinesNoStayRow, standIns := [], harness := (true, "03028776bcb4f847311eeade514b47d22535b6570d1ff4706aace52f7694205a"), looks := false }, told := true, goes := false }
def FnParseChurnStayRefinesNoStayToldSaid : Prop := Claim7.holds Tryf.pinned (.plain (OpenSpec.ofChange fnParseChurnStayRefinesNoStaySpec)) fnParseChurnStayRefinesNoStayCard
/-- ITS FALSE NEIGHBOUR. Refute it at one input. -/
def FnParseChurnStayRefinesNoStayToldWrongFalsely : Prop := Claim7.holds Tryf.pinned (.plain (OpenSpec.ofChange fnParseChurnStayRefinesNoStayWrong)) fnParseChurnStayRefinesNoStayCard
end Rows
end Go.Proofs.Qxb6625820aFmt
