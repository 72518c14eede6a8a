/-
  DERIVED. GIVEN WITH THE SEED: THE CARDS: each row of Qxb6625441aDoorRows.lean that lists a variable, with what it lists TIED to the program's text (the seventh form; the later family's looks); each row that meets fmt, with fmt's text TOLD by the authors' own Lean function (tested against real Go, not proved from fmt's source: count such statements apart). THE CARD IS WHAT COUNTS. Prove the row's statement (the work); the ties are given (Qxb6625441aDoorTie.lean); close each card by the builder's one call (the guide's Derived/Test/ToyasCard.lean, 'card_holds'). Laid BY PROGRAM, IN A SANDBOX (cutbox-door.mjs). By AI agents, Wed Nov 11 2026. No macro, syntax, notation, axiom, sorry.
-/
import Derived.Test.Qxb6625441aDoorRows
import GoSem.ClaimSeven
namespace Go.Proofs.Qxb6625441aDoor
namespace Rows

/-- THE TIED CARD OF 'zzlaws_root_b1.FnAppendHeaderExtendsAndDecodes'. -/
def fnAppendHeaderExtendsAndDecodesCard : Claim7 := { stood := { row := fnAppendHeaderExtendsAndDecodesRow, standIns := [], harness := (true, "972577149dcda1d8deedaa84a7e8cb6541b06d3c2dfd5185ceee61cc1ffe1986"), looks := false }, kinds := [], alts := [], laidByText := true, laidKinds := [.data, .data, .data], laidTests := true, laidLooks := .later }
def FnAppendHeaderExtendsAndDecodesCardSaid : Prop := Claim7.holds Tryd.pinned (.plain (OpenSpec.ofChange fnAppendHeaderExtendsAndDecodesSpec)) fnAppendHeaderExtendsAndDecodesCard

/-- THE TIED CARD OF 'zzlaws_root_b1.FnAppendHeaderChainsAndSeparates'. -/
def fnAppendHeaderChainsAndSeparatesCard : Claim7 := { stood := { row := fnAppendHeaderChainsAndSeparatesRow, standIns := [], harness := (true, "972577149dcda1d8deedaa84a7e8cb6541b06d3c2dfd5185ceee61cc1ffe1986"), looks := false }, kinds := [], alts := [], laidByText := true, laidKinds := [.data, .data, .data], laidTests := true, laidLooks := .later }
def FnAppendHeaderChainsAndSeparatesCardSaid : Prop := Claim7.holds Tryd.pinned (.plain (OpenSpec.ofChange fnAppendHeaderChainsAndSeparatesSpec)) fnAppendHeaderChainsAndSeparatesCard
end Rows
end Go.Proofs.Qxb6625441aDoor
