/-
  No cell of these rows narrows 'for every input' (looked for: loops, veiled, ifaces, maps, wideKeys, modest, calm, conditions, laid).
  DERIVED. THE GIVEN ROWS OF THIS SEAT. 2 by the template 'for every input the law returns true; each argument reads behind the call as it read before'; 0 by the template 'total and deterministic' (their statements: Qxb6625640aTotals.lean).
  GIVEN WITH THE SEED: the statements are not yours to turn. If you find one false, say at which input.
  Laid BY PROGRAM, IN A SANDBOX (cutbox-rows.mjs): the forced cells as the released guide's own fill.sh prints them over the translation 20f65e2e6e7abfe7… (all of the seat's roots in one cut). By AI agents, Wed Nov 11 2026. No macro, syntax, notation, axiom, sorry.
-/
import Derived.Test.Qxb6625640aChecked
import GoSem.Claim
import GoSem.ClaimJoined
import GoSem.ClaimMapViews
import Derived.JoinedTies
import Derived.KernelRfl
namespace Go.Proofs.Qxb6625640a
/- THE CELL 'sum', in the pinned program and in every row, IS THE sha256 OF THE DUMP (.gsa) THAT Qxb6625640aProg.lean LOADS. Nothing in Lean hashes anything: it is a label: what it is worth is what the hold of that sum in a sandbox is worth. -/
noncomputable def Try.pinned : Pinned := { name := "qxb6625640a", sum := "20f65e2e6e7abfe76d28aeb4dc56a2c365dd9c7e1ca89c6b251fe49cdc98fbb1", checked := Try.checked }
namespace Rows
def none {H : Type} : Left H := { results := [], args := [] }

/-- 'zzlaws_dice_b1.FnTermValueIsSignedSumOfKeptByRank': WHATEVER THE INPUT: true; the input reads as it did. -/
def fnTermValueIsSignedSumOfKeptByRankSpec : ChangeSpec := { name := "fnTermValueIsSignedSumOfKeptByRank", fn := fun _ => fun
  | [d1, d2, d3, d4, d5, d6, d7, d8] => { results := [.lit (.bool true)], args := [d1, d2, d3, d4, d5, d6, d7, d8] }
  | _ => none }
def fnTermValueIsSignedSumOfKeptByRankRow : OpenClaim := { program := "qxb6625640a", sum := "20f65e2e6e7abfe76d28aeb4dc56a2c365dd9c7e1ca89c6b251fe49cdc98fbb1", func := "example.com/tabard/tabard/zzlaws_dice_b1.FnTermValueIsSignedSumOfKeptByRank", spec := "fnTermValueIsSignedSumOfKeptByRank", recurses := true, apart := false }
def FnTermValueIsSignedSumOfKeptByRankSaid : Prop := fnTermValueIsSignedSumOfKeptByRankRow.holds Try.pinned (OpenSpec.ofChange fnTermValueIsSignedSumOfKeptByRankSpec)

/-- ITS FALSE NEIGHBOUR: 'it returns false'. Refute it at one input. -/
def fnTermValueIsSignedSumOfKeptByRankWrong : ChangeSpec := { name := "fnTermValueIsSignedSumOfKeptByRank", fn := fun _ => fun
  | [d1, d2, d3, d4, d5, d6, d7, d8] => { results := [.lit (.bool false)], args := [d1, d2, d3, d4, d5, d6, d7, d8] }
  | _ => none }
def FnTermValueIsSignedSumOfKeptByRankWrongFalsely : Prop := fnTermValueIsSignedSumOfKeptByRankRow.holds Try.pinned (OpenSpec.ofChange fnTermValueIsSignedSumOfKeptByRankWrong)

/-- 'zzlaws_dice_b1.FnTermValueHighestPlusComplementLowestIsAll': WHATEVER THE INPUT: true; the input reads as it did. -/
def fnTermValueHighestPlusComplementLowestIsAllSpec : ChangeSpec := { name := "fnTermValueHighestPlusComplementLowestIsAll", fn := fun _ => fun
  | [d1, d2, d3, d4, d5, d6, d7] => { results := [.lit (.bool true)], args := [d1, d2, d3, d4, d5, d6, d7] }
  | _ => none }
def fnTermValueHighestPlusComplementLowestIsAllRow : OpenClaim := { program := "qxb6625640a", sum := "20f65e2e6e7abfe76d28aeb4dc56a2c365dd9c7e1ca89c6b251fe49cdc98fbb1", func := "example.com/tabard/tabard/zzlaws_dice_b1.FnTermValueHighestPlusComplementLowestIsAll", spec := "fnTermValueHighestPlusComplementLowestIsAll", recurses := true, apart := false }
def FnTermValueHighestPlusComplementLowestIsAllSaid : Prop := fnTermValueHighestPlusComplementLowestIsAllRow.holds Try.pinned (OpenSpec.ofChange fnTermValueHighestPlusComplementLowestIsAllSpec)

/-- ITS FALSE NEIGHBOUR: 'it returns false'. Refute it at one input. -/
def fnTermValueHighestPlusComplementLowestIsAllWrong : ChangeSpec := { name := "fnTermValueHighestPlusComplementLowestIsAll", fn := fun _ => fun
  | [d1, d2, d3, d4, d5, d6, d7] => { results := [.lit (.bool false)], args := [d1, d2, d3, d4, d5, d6, d7] }
  | _ => none }
def FnTermValueHighestPlusComplementLowestIsAllWrongFalsely : Prop := fnTermValueHighestPlusComplementLowestIsAllRow.holds Try.pinned (OpenSpec.ofChange fnTermValueHighestPlusComplementLowestIsAllWrong)

end Rows
end Go.Proofs.Qxb6625640a
