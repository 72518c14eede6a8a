import Derived.Test.Qxb6625820aFmtFacts
import Derived.WalkKit
import Derived.WalkSpells
import Derived.WalkLawsBesides
import Derived.Deep.QuietTactic
import Derived.BigQuiet
import Derived.Lib.Hide
/-! The walks of parseChurn and its thin door. -/
namespace Go.Proofs.Qxb6625820aFmt
open Go.RowKit Go.Extern.Stop Go.Stop Go.Extern

attribute [local go_sem] Tryf.call9 Tryf.guard Tryf.fmtU2 Tryf.fmtU2r Tryf.fmtS1 Tryf.fmtS1r Tryf.op3_100 Tryf.op3_100w Tryf.strict3 Tryf.ptr37 Tryf.elem37 Tryf.isError37

/-- It is refused: no churn, an error. -/
def Refused (w : World) (e : Ending) (w' : World) : Prop := ∃ x, e = .returned (.tuple #[.pointer none, .iface 37 x]) ∧ Below w.heap.size w w'

/-- It is accepted: a new churn with these fields, no error. -/
def Accepted (u s : Int) (w : World) (e : Ending) (w' : World) : Prop :=
  ∃ k, e = .returned (.tuple #[.pointer (some ⟨k, 0, none⟩), .nilIface]) ∧ w.heap.size ≤ k ∧ k < w'.heap.size ∧ w'.cell? ⟨k, 0, none⟩ = some (.int .i64 u) ∧ w'.cell? ⟨k, 1, none⟩ = some (.int .i64 s) ∧ Below w.heap.size w w'

set_option maxHeartbeats 400000 in
theorem parse_none (st : Option Addr) (m : Int) (w : World) :
    Calls Tryf.prog 5 #[.pointer none, .pointer st, .int .i64 m] w (Refused w) := by
  go_enter Tryf.func5, Tryf.ntmps5
  go_wp2
  go_ret2
  refine ⟨_, rfl, ?_⟩
  repeat (first | exact Below.refl _ _ | refine Below.drew ?_ | refine Below.alloc ?_ (by simp; try omega) _)

set_option maxHeartbeats 400000 in
theorem parse_low (F : Interp) (b o : Nat) (u : Int) (st : Option Addr) (m : Int) (w : World) (hF : F.answers w.tape) (hu : w.cell? ⟨b, o, none⟩ = some (.int .i64 u)) (hb : b < w.heap.size) (h1 : u < 1) :
    Calls Tryf.prog 5 #[.pointer (some ⟨b, o, none⟩), .pointer st, .int .i64 m] w (Refused w) := by
  have hF' : ∀ i name reading k range, w.tape i (.extern (word name reading k) range) = F name reading k := hF
  go_enter Tryf.func5, Tryf.ntmps5
  go_wp2
  go_ret2
  refine ⟨_, rfl, ?_⟩
  repeat (first | exact Below.refl _ _ | refine Below.drew ?_ | refine Below.alloc ?_ (by simp; try omega) _)

set_option maxHeartbeats 400000 in
theorem parse_high (F : Interp) (b o : Nat) (u : Int) (st : Option Addr) (m : Int) (w : World) (hF : F.answers w.tape) (hu : w.cell? ⟨b, o, none⟩ = some (.int .i64 u)) (hb : b < w.heap.size) (h1 : ¬ u < 1) (h2 : m < u) :
    Calls Tryf.prog 5 #[.pointer (some ⟨b, o, none⟩), .pointer st, .int .i64 m] w (Refused w) := by
  have hF' : ∀ i name reading k range, w.tape i (.extern (word name reading k) range) = F name reading k := hF
  go_enter Tryf.func5, Tryf.ntmps5
  go_wp2
  go_ret2
  refine ⟨_, rfl, ?_⟩
  repeat (first | exact Below.refl _ _ | refine Below.drew ?_ | refine Below.alloc ?_ (by simp; try omega) _)

set_option maxHeartbeats 400000 in
theorem parse_plain (b o : Nat) (u : Int) (m : Int) (w : World) (hu : w.cell? ⟨b, o, none⟩ = some (.int .i64 u)) (hb : b < w.heap.size) (h1 : ¬ u < 1) (h2 : ¬ m < u) :
    Calls Tryf.prog 5 #[.pointer (some ⟨b, o, none⟩), .pointer none, .int .i64 m] w (Accepted u 0 w) := by
  go_enter Tryf.func5, Tryf.ntmps5
  go_wp2
  go_ret2
  refine ⟨w.heap.size + 1, rfl, by omega, by simp, by simp, by simp, ?_⟩
  repeat (first | exact Below.refl _ _ | refine Below.drew ?_ | refine Below.alloc ?_ (by simp; try omega) _)

set_option maxHeartbeats 400000 in
theorem parse_brief (F : Interp) (b o : Nat) (u : Int) (b2 o2 : Nat) (s : Int) (m : Int) (w : World) (hF : F.answers w.tape) (hu : w.cell? ⟨b, o, none⟩ = some (.int .i64 u)) (hb : b < w.heap.size) (hs : w.cell? ⟨b2, o2, none⟩ = some (.int .i64 s)) (hb2 : b2 < w.heap.size) (h1 : ¬ u < 1) (h2 : ¬ m < u) (h3 : s < 1) :
    Calls Tryf.prog 5 #[.pointer (some ⟨b, o, none⟩), .pointer (some ⟨b2, o2, none⟩), .int .i64 m] w (Refused w) := by
  have hF' : ∀ i name reading k range, w.tape i (.extern (word name reading k) range) = F name reading k := hF
  go_enter Tryf.func5, Tryf.ntmps5
  go_wp2
  go_ret2
  refine ⟨_, rfl, ?_⟩
  repeat (first | exact Below.refl _ _ | refine Below.drew ?_ | refine Below.alloc ?_ (by simp; try omega) _)

set_option maxHeartbeats 400000 in
theorem parse_full (b o : Nat) (u : Int) (b2 o2 : Nat) (s : Int) (m : Int) (w : World) (hu : w.cell? ⟨b, o, none⟩ = some (.int .i64 u)) (hb : b < w.heap.size) (hs : w.cell? ⟨b2, o2, none⟩ = some (.int .i64 s)) (hb2 : b2 < w.heap.size) (h1 : ¬ u < 1) (h2 : ¬ m < u) (h3 : ¬ s < 1) :
    Calls Tryf.prog 5 #[.pointer (some ⟨b, o, none⟩), .pointer (some ⟨b2, o2, none⟩), .int .i64 m] w (Accepted u s w) := by
  go_enter Tryf.func5, Tryf.ntmps5
  go_wp2
  go_ret2
  refine ⟨w.heap.size + 1, rfl, by omega, by simp, by simp, by simp, ?_⟩
  repeat (first | exact Below.refl _ _ | refine Below.drew ?_ | refine Below.alloc ?_ (by simp; try omega) _)


end Go.Proofs.Qxb6625820aFmt
