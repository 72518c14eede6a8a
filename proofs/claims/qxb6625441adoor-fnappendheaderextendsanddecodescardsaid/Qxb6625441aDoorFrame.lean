import Derived.Test.Qxb6625441aDoorLaw1
import Derived.Test.Qxb6625441aDoorTie
import Derived.Test.Qxb6625441aDoorCards
import Derived.ProofKit
import Derived.LaidMore
import Derived.OpenShut
import Derived.ShutString
import Derived.ChangeOld
import Derived.Below
import Derived.Stop.Joined
import Derived.Stop.LaidErr
import Derived.Lib.LaidTab
import Derived.SevenTiedAt
/-! What both rows' frames share: the listed tables, the slice that came in as bytes. -/
namespace Go.Proofs.Qxb6625441aDoor
open Go.ChangeShapes Go.WideShapes Go.ChangeAt Go.RowKit

theorem ownK : ownKnob Tryd.prog.godebug = none := by kernel_rfl
theorem laidOut : laidOutB Tryd.prog = true := by kernel_rfl

/-- The listed variables. -/
abbrev laid3 : List (String × DataW Unit) := [("math/bits.deBruijn32tab", Rows.laid_math_bits_deBruijn32tab), ("math/bits.deBruijn64tab", Rows.laid_math_bits_deBruijn64tab), ("internal/strconv.uint64pow10", Rows.laid_internal_strconv_uint64pow10)]

theorem door_met (os : Os) (args : Array Value) : laidMetH Tryd.prog laid3 ((World.doorLaid Tryd.prog 400 os).forCall (fun _ _ => 0) ⟨#[], args, []⟩).memory :=
  laidMetH_of_parts3 (fuel := 8) (laidMet_of_run' 8 (by kernel_rfl) (by kernel_rfl)) (by kernel_rfl) (by kernel_rfl)

theorem gPow : Tryd.prog.globalNamed "internal/strconv.uint64pow10" = some 0 := by kernel_rfl
theorem tPow : (Tryd.prog.globals[0]?).map (·.type) = some 40 := by kernel_rfl
theorem cells29 : Tryd.prog.cellsOf 29 = 1 := by kernel_rfl
theorem cells40 : Tryd.prog.cellsOf 40 = 20 := by kernel_rfl
theorem cells5 : Tryd.prog.cellsOf 5 = 1 := by kernel_rfl

theorem tab_of_laid {W : World} (h : laidMetH Tryd.prog laid3 W) : Lib.TabIs Tryd.prog W "internal/strconv.uint64pow10" .u64 Lib.pow10Tab := by
  rw [MakeChecks.laidMetH_plain _ _ _ (by kernel_rfl)] at h
  have h2 := h.tail.tail
  exact Lib.tabIs_of_head gPow tPow Tryd.underlying40 Tryd.underlying29 cells29 cells40 h2

/-- WHAT THE WALK IS TOLD OF A SLICE OF BYTES THAT CAME IN. -/
structure Came (w : World) (a : Option Addr) (len cap : Nat) (l : List UInt8) : Prop where
  le : len ≤ maxLen
  same : l.length = len
  rd : Rd w (.slice a len cap) l

/-- A byte out of a number. -/
def toByte (z : Int) : UInt8 := UInt8.ofNat z.toNat
theorem toByte_eq {z : Int} (h : (Lit.int .u8 z).wf = true) : ((toByte z).toNat : Int) = z := by
  have hb := bounds_u8 h
  unfold toByte
  rw [UInt8.toNat_ofNat']
  omega

theorem came_of {w : World} {x : Addr} {len cap : Nat} {zs : List Int} (hl : len ≤ cap) (hm : cap ≤ maxLen) (hz : zs.length = cap)
    (hcell : ∀ i, i < zs.length → w.cell? (x.add i) = some (.int .u8 (zs.getD i 0))) (hwz : ∀ n ∈ zs, (Lit.int .u8 n).wf = true) :
    Came w (some x) len cap ((zs.take len).map toByte) := by
  have hlen : ((zs.take len).map toByte).length = len := by simp; omega
  refine ⟨by omega, hlen, ?_⟩
  by_cases h0 : len = 0
  · subst h0
    exact .inl ⟨by simp, _, _, rfl⟩
  · obtain ⟨b, o, s⟩ := x
    have hs : s = none := by simpa [Addr.add] using World.cell?_spot (hcell 0 (by omega))
    subst hs
    refine .inr ⟨b, o, cap, by rw [hlen], fun i hi => ?_⟩
    rw [hlen] at hi
    have h1 := hcell i (by omega)
    rw [Addr.add_lit] at h1
    rw [h1]
    have h2 : zs[i]? = some (zs[i]'(by omega)) := List.getElem?_eq_getElem (by omega)
    have h3 : ((zs.take len).map toByte).getD i 0 = toByte (zs[i]'(by omega)) := by simp [hi, h2]
    rw [h3, toByte_eq (hwz _ (List.getElem_mem _))]
    simp [h2]

theorem byte_is {z : Int} (h : (Lit.int .u8 z).wf = true) : ∃ t : UInt8, z = (t.toNat : Int) := ⟨toByte z, (toByte_eq h).symm⟩

end Go.Proofs.Qxb6625441aDoor
