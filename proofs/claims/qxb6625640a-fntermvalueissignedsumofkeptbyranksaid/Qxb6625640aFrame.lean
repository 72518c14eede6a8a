import Derived.Test.Qxb6625640aRows
import Derived.Test.Qxb6625640aSmall
import Derived.WalkKit
import Derived.ProofKit
import Derived.OpenShut
import Derived.ShutString
import Derived.ChangeOld
import Derived.Below
/-! What both rows' frames share: a slice of integers that came in. -/
namespace Go.Proofs.Qxb6625640a
open Go.ChangeShapes Go.WideShapes Go.ChangeAt Go.RowKit

theorem own : ownKnob Try.prog.godebug = none := by kernel_rfl
theorem laidOut : laidOutB Try.prog = true := by kernel_rfl

/-- WHAT THE WALK IS TOLD OF A SLICE OF INTEGERS THAT CAME IN: it is nil; or it leads to a row of 'cap' cells, the numbers 'zs' (the first 'len' are its elements, the rest its spare room), each fitting its kind. -/
def IsRow (k : IntKind) (w : World) (a : Option Addr) (len cap : Nat) (zs : List Int) : Prop :=
  (a = none ∧ len = 0 ∧ cap = 0 ∧ zs = []) ∨
  ∃ x, a = some x ∧ len ≤ cap ∧ cap ≤ maxLen ∧ zs.length = cap ∧ (∀ i, i < zs.length → w.cell? (x.add i) = some (.int k (zs.getD i 0))) ∧ ∀ n ∈ zs, (Lit.int k n).wf = true


theorem row_le {w : World} {a : Option Addr} {len cap : Nat} {zs : List Int} (h : IsRow .i64 w a len cap zs) : len ≤ maxLen := by
  rcases h with ⟨_, rfl, _⟩ | ⟨x, _, hl, hm, _⟩
  · unfold maxLen; omega
  · omega

theorem row_rd {w : World} {a : Option Addr} {len cap : Nat} {zs : List Int} (h : IsRow .i64 w a len cap zs) : ∃ l : List Int, l.length = len ∧ Rd w (.slice a len cap) l := by
  rcases h with ⟨rfl, rfl, rfl, rfl⟩ | ⟨x, rfl, hl, hm, hz, hcell, _⟩
  · exact ⟨[], rfl, .inl ⟨rfl, _, _, rfl⟩⟩
  · have hlen : (zs.take len).length = len := by simp; omega
    refine ⟨zs.take len, hlen, ?_⟩
    by_cases h0 : len = 0
    · subst h0
      exact .inl ⟨by simp, _, _, rfl⟩
    · obtain ⟨b, o, s⟩ := x
      have hs : s = none := by simpa [Addr.add] using World.cell?_spot (hcell 0 (by omega))
      subst hs
      refine .inr ⟨b, o, cap, by rw [hlen], fun i hi => ?_⟩
      rw [hlen] at hi
      have h1 := hcell i (by omega)
      rw [Addr.add_lit] at h1
      rw [h1]
      simp [hi]

end Go.Proofs.Qxb6625640a
