/-
  No cell of these rows narrows 'for every input' (looked for: loops, veiled, ifaces, maps, wideKeys, modest, calm, conditions, laid).
  DERIVED. THE GIVEN ROWS OF THIS SEAT. 2 by the template 'for every input the law returns true; each argument reads behind the call as it read before'; 0 by the template 'total and deterministic' (their statements: Qxb6625820aFmtTotals.lean).
  GIVEN WITH THE SEED: the statements are not yours to turn. If you find one false, say at which input.
  Laid BY PROGRAM, IN A SANDBOX (cutbox-rows.mjs): the forced cells as the released guide's own fill.sh prints them over the translation b76ae0149015075b… (all of the seat's roots in one cut). By AI agents, Wed Nov 11 2026. No macro, syntax, notation, axiom, sorry.
-/
import Derived.Test.Qxb6625820aFmtChecked
import GoSem.Claim
import GoSem.ClaimJoined
import GoSem.ClaimMapViews
import Derived.JoinedTies
import Derived.KernelRfl
namespace Go.Proofs.Qxb6625820aFmt
/- THE CELL 'sum', in the pinned program and in every row, IS THE sha256 OF THE DUMP (.gsa) THAT Qxb6625820aFmtProg.lean LOADS. Nothing in Lean hashes anything: it is a label: what it is worth is what the hold of that sum in a sandbox is worth. -/
noncomputable def Tryf.pinned : Pinned := { name := "qxb6625820afmt", sum := "b76ae0149015075b06adb8c685fef83d32307bd308f0cb57e83f7fbaab8e4aec", checked := Tryf.checked }
namespace Rows
def none {H : Type} : Left H := { results := [], args := [] }

/-- 'zzlaws_scenario_b1.FnParseChurnAcceptedFromUntilUp': WHATEVER THE INPUT: true; the input reads as it did. -/
def fnParseChurnAcceptedFromUntilUpSpec : ChangeSpec := { name := "fnParseChurnAcceptedFromUntilUp", fn := fun _ => fun
  | [d1, d2, d3] => { results := [.lit (.bool true)], args := [d1, d2, d3] }
  | _ => none }
def fnParseChurnAcceptedFromUntilUpRow : OpenClaim := { program := "qxb6625820afmt", sum := "b76ae0149015075b06adb8c685fef83d32307bd308f0cb57e83f7fbaab8e4aec", func := "example.com/keelstone/keelstone/zzlaws_scenario_b1.FnParseChurnAcceptedFromUntilUp", spec := "fnParseChurnAcceptedFromUntilUp", stops := ["fmt.errorf"], inPlace := ["fmt.errorf"], apart := false }
/-- NO THEOREM (fmt's text is open here; it may be false): for the released tool's asking of the row's closed facts alone. THE STATEMENT IS 'FnParseChurnAcceptedFromUntilUpToldSaid' (Qxb6625820aFmtCards.lean). -/
def FnParseChurnAcceptedFromUntilUpFormAsk : Prop := fnParseChurnAcceptedFromUntilUpRow.holds Tryf.pinned (OpenSpec.ofChange fnParseChurnAcceptedFromUntilUpSpec)

/-- ITS FALSE NEIGHBOUR: 'it returns false'. Refute it at one input. -/
def fnParseChurnAcceptedFromUntilUpWrong : ChangeSpec := { name := "fnParseChurnAcceptedFromUntilUp", fn := fun _ => fun
  | [d1, d2, d3] => { results := [.lit (.bool false)], args := [d1, d2, d3] }
  | _ => none }
def FnParseChurnAcceptedFromUntilUpWrongFormAsk : Prop := fnParseChurnAcceptedFromUntilUpRow.holds Tryf.pinned (OpenSpec.ofChange fnParseChurnAcceptedFromUntilUpWrong)

/-- 'zzlaws_scenario_b1.FnParseChurnStayRefinesNoStay': WHATEVER THE INPUT: true; the input reads as it did. -/
def fnParseChurnStayRefinesNoStaySpec : ChangeSpec := { name := "fnParseChurnStayRefinesNoStay", fn := fun _ => fun
  | [d1, d2, d3] => { results := [.lit (.bool true)], args := [d1, d2, d3] }
  | _ => none }
def fnParseChurnStayRefinesNoStayRow : OpenClaim := { program := "qxb6625820afmt", sum := "b76ae0149015075b06adb8c685fef83d32307bd308f0cb57e83f7fbaab8e4aec", func := "example.com/keelstone/keelstone/zzlaws_scenario_b1.FnParseChurnStayRefinesNoStay", spec := "fnParseChurnStayRefinesNoStay", stops := ["fmt.errorf"], inPlace := ["fmt.errorf"], apart := false }
/-- NO THEOREM (fmt's text is open here; it may be false): for the released tool's asking of the row's closed facts alone. THE STATEMENT IS 'FnParseChurnStayRefinesNoStayToldSaid' (Qxb6625820aFmtCards.lean). -/
def FnParseChurnStayRefinesNoStayFormAsk : Prop := fnParseChurnStayRefinesNoStayRow.holds Tryf.pinned (OpenSpec.ofChange fnParseChurnStayRefinesNoStaySpec)

/-- ITS FALSE NEIGHBOUR: 'it returns false'. Refute it at one input. -/
def fnParseChurnStayRefinesNoStayWrong : ChangeSpec := { name := "fnParseChurnStayRefinesNoStay", fn := fun _ => fun
  | [d1, d2, d3] => { results := [.lit (.bool false)], args := [d1, d2, d3] }
  | _ => none }
def FnParseChurnStayRefinesNoStayWrongFormAsk : Prop := fnParseChurnStayRefinesNoStayRow.holds Tryf.pinned (OpenSpec.ofChange fnParseChurnStayRefinesNoStayWrong)

end Rows
end Go.Proofs.Qxb6625820aFmt
