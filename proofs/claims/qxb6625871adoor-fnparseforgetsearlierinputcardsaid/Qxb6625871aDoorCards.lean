/-
  DERIVED. GIVEN WITH THE SEED: THE CARDS: each row of Qxb6625871aDoorRows.lean that lists a variable, with what it lists TIED to the program's text (the seventh form; the later family's looks); each row that meets fmt, with fmt's text TOLD by the authors' own Lean function (tested against real Go, not proved from fmt's source: count such statements apart). THE CARD IS WHAT COUNTS. Prove the row's statement (the work); the ties are given (Qxb6625871aDoorTie.lean); close each card by the builder's one call (the guide's Derived/Test/ToyasCard.lean, 'card_holds'). Laid BY PROGRAM, IN A SANDBOX (cutbox-door.mjs). By AI agents, Wed Nov 11 2026. No macro, syntax, notation, axiom, sorry.
-/
import Derived.Test.Qxb6625871aDoorRows
import GoSem.ClaimSeven
namespace Go.Proofs.Qxb6625871aDoor
namespace Rows

/-- THE TIED CARD OF 'zzlaws_internal_xpress_b1.FnParseTilesSrcWithTrueCopies'. -/
def fnParseTilesSrcWithTrueCopiesCard : Claim7 := { stood := { row := fnParseTilesSrcWithTrueCopiesRow, standIns := [], harness := (true, "136cd7e28ce35e5303622d6c68ee3dcc919b8564fd79173fb8ed0601609d18c6"), looks := false }, kinds := [], alts := [], laidByText := true, laidKinds := [.data], laidTests := true, laidLooks := .later }
def FnParseTilesSrcWithTrueCopiesCardSaid : Prop := Claim7.holds Tryd.pinned (.plain (OpenSpec.ofChange fnParseTilesSrcWithTrueCopiesSpec)) fnParseTilesSrcWithTrueCopiesCard

/-- THE TIED CARD OF 'zzlaws_internal_xpress_b1.FnParseForgetsEarlierInput'. -/
def fnParseForgetsEarlierInputCard : Claim7 := { stood := { row := fnParseForgetsEarlierInputRow, standIns := [], harness := (true, "136cd7e28ce35e5303622d6c68ee3dcc919b8564fd79173fb8ed0601609d18c6"), looks := false }, kinds := [], alts := [], laidByText := true, laidKinds := [.data], laidTests := true, laidLooks := .later }
def FnParseForgetsEarlierInputCardSaid : Prop := Claim7.holds Tryd.pinned (.plain (OpenSpec.ofChange fnParseForgetsEarlierInputSpec)) fnParseForgetsEarlierInputCard
end Rows
end Go.Proofs.Qxb6625871aDoor
