import Derived.Test.Qxb6625820aFmtRows
import Derived.Test.Qxb6625820aFmtCards
import Derived.ProofKit
import Derived.OpenShut
import Derived.ChangeShapes
import Derived.ChangeSame
import Derived.JoinedOf
import Derived.Carry
import Derived.Stop.JoinedAt
import Derived.Stop.Texts
import Derived.Stop.JoinedTold
import Derived.SizedLaws
import Derived.SevenToldRow
/-! What both cards share. -/
namespace Go.Proofs.Qxb6625820aFmt
open Go.ChangeShapes Go.WideShapes Go.ChangeAt Go.RowKit Go.Kit
open Go.Extern.Stop Go.Stop Go.Extern

theorem ownK : ownKnob Tryf.prog.godebug = none := by kernel_rfl
theorem laidOut : laidOutB Tryf.pinned.checked.prog = true := by kernel_rfl
theorem laidOut' : laidOutB Tryf.prog = true := by kernel_rfl
theorem cells3 : Tryf.prog.cellsOf 3 = 1 := by kernel_rfl
theorem stops : Tryf.pinned.checked.prog.stops = ["fmt.errorf"] := by kernel_rfl
theorem stopKnobs : Tryf.pinned.checked.prog.stopKnobs = [] := by kernel_rfl
theorem quiet (os : Os) : Stop.quiet Tryf.pinned.checked.prog os := by
  intro k hk
  rw [stopKnobs] at hk
  cases hk

end Go.Proofs.Qxb6625820aFmt
