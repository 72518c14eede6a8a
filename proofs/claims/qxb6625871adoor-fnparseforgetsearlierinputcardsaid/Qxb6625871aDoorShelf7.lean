/-
  DERIVED: THE SHELF's CONTRACTS AT THIS DUMP, IN PLAIN WORDS (tools/lay-plain.mjs out of 'TrydShelf7.lean', which tools/lay-shelf.mjs wrote): THE SAME DECLARATIONS UNDER THE SAME NAMES: 'import', 'namespace', 'open', 'def', 'theorem' AND NOTHING ELSE: no command of the shelf's: FOR A HAND-IN. Each laying: the table of numbers ('.._ren') and one theorem, a field a fact of the dump's own or the kernel's comparison; each contract: ONE APPLICATION.
-/
import Derived.Shelf.Spec.TrailingZeros
import Derived.Ground.Names7Prog
import Derived.Test.Qxb6625871aDoorProg
namespace Go.Proofs
open Go.Shelf
def Tryd.lays7n29_ren : Go.Shelf.Ren := ⟨fun | 29 => 23 | n => n, fun | 22 => 59 | 3 => 3 | 4 => 4 | 25 => 58 | 54 => 63 | 0 => 0 | 5 => 5 | n => n, fun | 1 => 1 | n => n⟩
theorem Tryd.lays7n29 : Go.Proofs.Lays7.n29 Tryd.prog Tryd.lays7n29_ren := {
  mixed := by kernel_rfl
  f29 := Tryd.func23.trans (congrArg some (by kernel_rfl))
  t0 := Tryd.underlying0
  a0 := Tryd.isAgg0
  z0 := Tryd.sizeOf0
  v0 := Tryd.zeroValue0
  i0 := by kernel_rfl
  t3 := Tryd.underlying3
  a3 := Tryd.isAgg3
  z3 := Tryd.sizeOf3
  v3 := Tryd.zeroValue3
  i3 := by kernel_rfl
  t4 := Tryd.underlying4
  a4 := Tryd.isAgg4
  z4 := Tryd.sizeOf4
  v4 := Tryd.zeroValue4
  i4 := by kernel_rfl
  t5 := Tryd.underlying5
  a5 := Tryd.isAgg5
  z5 := Tryd.sizeOf5
  v5 := Tryd.zeroValue5
  i5 := by kernel_rfl
  t22 := Tryd.underlying59
  a22 := Tryd.isAgg59
  z22 := Tryd.sizeOf59
  v22 := Tryd.zeroValue59
  i22 := by kernel_rfl
  t25 := Tryd.underlying58
  a25 := Tryd.isAgg58
  z25 := Tryd.sizeOf58
  v25 := Tryd.zeroValue58
  i25 := by kernel_rfl
  t54 := Tryd.underlying63
  a54 := Tryd.isAgg63
  z54 := Tryd.sizeOf63
  g1 := by kernel_rfl }
theorem Tryd.bits_TrailingZeros64 (x : Nat) (hx : x < 18446744073709551616) (w : World) (hT : x ≠ 0 → TabAt 1 Lib.deBruijn64tab w) :
    Calls Tryd.prog 23 #[.int .u64 x] w fun e w' => e = .returned (.int .i64 (Lib.ctz 64 x)) ∧ w' = w := Any7.bits_TrailingZeros64 Tryd.lays7n29 x hx w hT
end Go.Proofs
