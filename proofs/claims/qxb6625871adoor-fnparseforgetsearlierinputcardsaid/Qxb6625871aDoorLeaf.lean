import Derived.Test.Qxb6625871aDoorShelf
import Derived.Test.Qxb6625871aDoorShelf7
import Derived.Test.Qxb6625871aDoorPlain
import Derived.WalkKit
import Derived.WalkSpells
import Derived.WalkLawsBesides
import Derived.Deep.QuietTactic
import Derived.BigQuiet
import Derived.Lib.Hide
import Derived.Lib.QuietBelow
/-! The walks of hash, offsetBits, value, worth. -/
namespace Go.Proofs.Qxb6625871aDoor
open Go.RowKit

theorem ret_int {k : IntKind} {a b : Int} (h : a = b) : Ending.returned (.int k a) = .returned (.int k b) := by rw [h]
theorem ret_bool {a b : Bool} (h : a = b) : Ending.returned (.bool a) = .returned (.bool b) := by rw [h]

/-- The bytes lie in block b from its head on. -/
def Src (w : World) (b : Nat) (l : List UInt8) : Prop := ∀ i, i < l.length → w.cell? ⟨b, i, none⟩ = some (.int .u8 ((bt l i).toNat : Int))

set_option maxHeartbeats 400000 in
theorem hash_at (b i m c : Nat) (l : List UInt8) (w : World) (hm : 4 ≤ m) (hi : i + 4 ≤ l.length) (hs : Src w b l) :
    Calls Tryd.prog 18 #[.slice (some ⟨b, i, none⟩) m c] w fun e w' => e = .returned (.int .u32 (hsh l i : Int)) ∧ Below w.heap.size w w' := by
  have c0 := hs i (by omega)
  have c1 := hs (i + 1) (by omega)
  have c2 := hs (i + 2) (by omega)
  have c3 := hs (i + 3) (by omega)
  have hE : Hid (((Lib.leNat [bt l i, bt l (i + 1), bt l (i + 2), bt l (i + 3)] : Nat) : Int) * 2654435761 % 4294967296 / 524288 = (hsh l i : Int)) := by
    show _ = _
    unfold hsh; omega
  go_enter Tryd.func18, Tryd.ntmps18
  go_wp2_with (go_at_call 21; refine (Tryd.binary_LE_Uint32 b i m c _ _ _ _ w hm c0 c1 c2 c3).mono ?_; rintro e w1 ⟨rfl, b1⟩)
  go_ret
  exact ⟨ret_int hE.out, b1⟩

theorem bitLen_small (x : Nat) : Lib.bitLen x ≤ 64 := by
  have : ∀ f x, Lib.bitLenAux f x ≤ f := by
    intro f
    induction f with
    | zero => intro x; simp [Lib.bitLenAux]
    | succ f ih => intro x; unfold Lib.bitLenAux; split; omega; have := ih (x / 2); omega
  exact this 64 x

set_option maxHeartbeats 400000 in
theorem obits_any (x : Nat) (h1 : x ≤ 4294967296) (w : World) :
    Calls Tryd.prog 20 #[.int .i64 (x : Int)] w fun e w' => e = .returned (.int .i64 ((Lib.bitLen x : Int) - 1)) ∧ w' = w := by
  have hb := bitLen_small x
  have hl := (Tryd.bits_Len (x : Int) w (by omega) (by omega))
  rw [Int.toNat_natCast] at hl
  go_enter Tryd.func20, Tryd.ntmps20
  go_wp2_with (go_at_call 24; refine hl.mono ?_; rintro e w1 ⟨rfl, rfl⟩)
  go_ret
  exact ⟨rfl, rfl⟩

set_option maxHeartbeats 400000 in
theorem value_any (a o : Nat) (ha : a ≤ 1048576) (ho : o ≤ 1048576) (w : World) :
    Calls Tryd.prog 16 #[.agg #[.int .i32 (a : Int), .int .i32 (o : Int)]] w fun e w' => e = .returned (.int .i64 (val (a, o))) ∧ Below w.heap.size w w' := by
  have hb := bitLen_small o
  go_enter Tryd.func16, Tryd.ntmps16
  go_wp2
  go_quiet ((go_at_call 20; exact Calls.quiet_of_same (obits_any o (by omega) _)))
  go_wp2
  go_ret

  exact ⟨ret_int (by simp [val]), below_drewN ((Below.refl _ _).alloc (Nat.le_refl _) _) _⟩

set_option maxHeartbeats 400000 in
theorem worth_any (a o : Nat) (ha : a ≤ 1048576) (ho : o ≤ 1048576) (w : World) :
    Calls Tryd.prog 15 #[.agg #[.int .i32 (a : Int), .int .i32 (o : Int)]] w fun e w' => e = .returned (.bool (wor (a, o))) ∧ Below w.heap.size w w' := by
  have hb := bitLen_small o
  by_cases h1 : 4 < a
  · go_enter Tryd.func15, Tryd.ntmps15
    go_wp2
    go_ret
    exact ⟨ret_bool (by simp [wor, h1]), (Below.refl _ _).alloc (Nat.le_refl _) _⟩
  · by_cases h2 : a = 4
    · subst h2
      go_enter Tryd.func15, Tryd.ntmps15
      go_wp2_with (go_at_call 20; refine (obits_any o (by omega) _).mono ?_; rintro e w1 ⟨rfl, rfl⟩)
      go_ret
      exact ⟨ret_bool (by simp [wor]), (Below.refl _ _).alloc (Nat.le_refl _) _⟩
    · have h3 : ((a : Int) == 4) = false := by simp; omega
      go_enter Tryd.func15, Tryd.ntmps15
      go_wp2
      go_ret
      exact ⟨ret_bool (by simp [wor, h1, h2]; omega), (Below.refl _ _).alloc (Nat.le_refl _) _⟩

end Go.Proofs.Qxb6625871aDoor
