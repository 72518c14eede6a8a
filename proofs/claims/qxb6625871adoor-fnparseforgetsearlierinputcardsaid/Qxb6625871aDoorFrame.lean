import Derived.Test.Qxb6625871aDoorLaw2
import Derived.Test.Qxb6625871aDoorTie
import Derived.Test.Qxb6625871aDoorCards
import Derived.ProofKit
import Derived.LaidMore
import Derived.OpenShut
import Derived.ChangeOld
import Derived.Below
import Derived.Stop.Joined
import Derived.Stop.LaidErr
import Derived.Lib.LaidTab
import Derived.SevenTiedAt
/-! What both rows' frames share: the listed table, the slice that came in as bytes. -/
namespace Go.Proofs.Qxb6625871aDoor
open Go.ChangeShapes Go.WideShapes Go.ChangeAt Go.RowKit

theorem ownK : ownKnob Tryd.prog.godebug = none := by kernel_rfl
theorem laidOut : laidOutB Tryd.prog = true := by kernel_rfl

/-- The listed variable. -/
abbrev laid1 : List (String × DataW Unit) := [("math/bits.deBruijn64tab", Rows.laid_math_bits_deBruijn64tab)]

theorem door_met (os : Os) (args : Array Value) : laidMetH Tryd.prog laid1 ((World.doorLaid Tryd.prog 400 os).forCall (fun _ _ => 0) ⟨#[], args, []⟩).memory :=
  laidMetH_of_parts3 (fuel := 8) (laidMet_of_run' 8 (by kernel_rfl) (by kernel_rfl)) (by kernel_rfl) (by kernel_rfl)

theorem gTab : Tryd.prog.globalNamed "math/bits.deBruijn64tab" = some 1 := by kernel_rfl
theorem tTab : (Tryd.prog.globals[1]?).map (·.type) = some 63 := by kernel_rfl
theorem cells5 : Tryd.prog.cellsOf 5 = 1 := by kernel_rfl
theorem cells63 : Tryd.prog.cellsOf 63 = 64 := by kernel_rfl

theorem tab_of_laid {W : World} (h : laidMetH Tryd.prog laid1 W) : TabAt 1 Lib.deBruijn64tab W := by
  rw [MakeChecks.laidMetH_plain _ _ _ (by kernel_rfl)] at h
  have h2 : Lib.TabIs Tryd.prog W "math/bits.deBruijn64tab" .u8 (Lib.deBruijn64tab.map fun (x : Nat) => (x : Int)) := Lib.tabIs_of_head gTab tTab Tryd.underlying63 Tryd.underlying5 cells5 cells63 h
  intro j hj
  have := h2.cell gTab j (by simpa using hj)
  simpa [hj] using this

/-- WHAT THE WALK IS TOLD OF A SLICE OF BYTES THAT CAME IN. -/
structure Came (w : World) (a : Option Addr) (len cap : Nat) (l : List UInt8) : Prop where
  le : len ≤ maxLen
  same : l.length = len
  rd : Rd w (.slice a len cap) l

/-- A byte out of a number. -/
def toByte (z : Int) : UInt8 := UInt8.ofNat z.toNat
theorem toByte_eq {z : Int} (h : (Lit.int .u8 z).wf = true) : ((toByte z).toNat : Int) = z := by
  have hb := bounds_u8 h
  unfold toByte
  rw [UInt8.toNat_ofNat']
  omega

theorem came_of {w : World} {x : Addr} {len cap : Nat} {zs : List Int} (hl : len ≤ cap) (hm : cap ≤ maxLen) (hz : zs.length = cap)
    (hcell : ∀ i, i < zs.length → w.cell? (x.add i) = some (.int .u8 (zs.getD i 0))) (hwz : ∀ n ∈ zs, (Lit.int .u8 n).wf = true) :
    Came w (some x) len cap ((zs.take len).map toByte) := by
  have hlen : ((zs.take len).map toByte).length = len := by simp; omega
  refine ⟨by omega, hlen, ?_⟩
  by_cases h0 : len = 0
  · subst h0
    exact .inl ⟨by simp, .inr ⟨_, _, rfl⟩⟩
  · obtain ⟨b, o, s⟩ := x
    have hs : s = none := by simpa [Addr.add] using World.cell?_spot (hcell 0 (by omega))
    subst hs
    refine .inr ⟨b, o, cap, by rw [hlen], fun i hi => ?_⟩
    rw [hlen] at hi
    have h1 := hcell i (by omega)
    rw [Addr.add_lit] at h1
    rw [h1]
    have h2 : zs[i]? = some (zs[i]'(by omega)) := List.getElem?_eq_getElem (by omega)
    have h3 : bt ((zs.take len).map toByte) i = toByte (zs[i]'(by omega)) := by unfold bt; simp [hi, h2]
    rw [h3, toByte_eq (hwz _ (List.getElem_mem _))]
    simp [h2]

theorem came_any {H : Type} {enc : TypeId × Value → H} {W : World} {fuel : Nat} {a : Option Addr} {len cap : Nat} {d : DataW H} {p : List MemPlace}
    (hf : DataW.trod enc Tryd.prog W 0 (fun _ => true) true fuel 22 (Value.slice a len cap).cells.toList = some (d, p)) : ∃ l, Came W a len cap l := by
  rcases open_ints Tryd.underlying22 Tryd.underlying5 cells5 hf with ⟨hcs, _⟩ | ⟨x, l, c, zs, hcs, _, hl, hm, hz, _, hcell, hwz⟩
  · simp [Value.cells] at hcs
    obtain ⟨rfl, rfl, rfl⟩ := hcs
    exact ⟨[], by unfold maxLen; omega, rfl, .inl ⟨rfl, .inl ⟨_, rfl⟩⟩⟩
  · simp [Value.cells] at hcs
    obtain ⟨rfl, rfl, rfl⟩ := hcs
    exact ⟨_, came_of hl hm (by simpa using hz) hcell hwz⟩

end Go.Proofs.Qxb6625871aDoor
