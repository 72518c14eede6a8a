import Derived.Test.Qxb6625871aDoorBest
import Derived.Lib.AppendZerosOnto
import Derived.OwnWalk
/-! append(s[:0], make([]int32, n)...) on a row of the call's own. -/
namespace Go.Proofs.Qxb6625871aDoor
open Go.RowKit Go.Sort

theorem info21 : (Tryd.prog.info? 21).map (fun i => (i.zero, i.size, i.bytes)) = some (some (.int .i32 0), 1, 4) := by kernel_rfl
theorem info47 : (Tryd.prog.info? 47).map (fun i => (i.zero, i.size, i.bytes)) = some (some (.agg #[.int .i32 0, .int .i32 0]), 2, 8) := by kernel_rfl
theorem infoByte : (Tryd.prog.info? 5).map (fun i => (i.zero, i.size, i.bytes)) = some (some (.int .u8 0), 1, 1) := by kernel_rfl

theorem zero_cells (n : Nat) : (Builtin.zeroCells (Value.int .i32 0).cells n).toList = List.replicate n (.int .i32 0) := by
  apply List.ext_getElem
  · simp [Builtin.zeroCells, Value.cells]
  · intro i h1 h2
    simp [Builtin.zeroCells, Value.cells, Nat.mod_one]

theorem zeros_own (w : World) (B : Nat) (pv : Value) (ty : TypeId) (hown : w.ownsRow B 21 1 pv 0 []) (n : Nat) (hn : n ≤ 1048576) (hB : B ≤ w.heap.size) :
    ∃ v' w', (Builtin.append_ #[25, 3] ty #[pv, .int .i64 (n : Int)]).run Tryd.prog w = .ok v' w' ∧ w'.ownsRow B 21 1 v' n (List.replicate n (.int .i32 0)) ∧ w.grownBy w' pv.ownBlock := by
  obtain ⟨i0, hi, hz0, hz1, hz2⟩ := info_parts info21
  have hwn : IntKind.i64.wrap (n : Int) = n := by rw [IntKind.wrap_i64]; omega
  have hneg : ¬ ((n : Int) < 0) := by omega
  have h48i : ¬ (281474976710656 < (n : Int) * (4 : Int)) := by omega
  have hfresh : ∀ (cap : Nat) (row : Option Nat), n ≤ cap → cap ≤ maxLen → ∀ rest : Array Value, rest.size = cap - n →
      (w.drew.alloc (.cells (Builtin.zeroCells (Value.int .i32 0).cells n ++ rest) 21)).ownsRow B 21 1 (.slice (some ⟨w.heap.size, 0, none⟩) n cap) n (List.replicate n (.int .i32 0)) ∧
      w.grownBy (w.drew.alloc (.cells (Builtin.zeroCells (Value.int .i32 0).cells n ++ rest) 21)) row := by
    intro cap row h1 h2 rest hr
    refine ⟨⟨by simp, .inr ⟨w.heap.size, cap, _, rfl, hB, heap_alloc_new w.drew _, h1, h2, ?_, ?_⟩⟩, ⟨rfl, rfl, rfl, by simp, fun k hk _ => heap_alloc_old w.drew _ hk⟩⟩
    · simp [size_zeroCells, Value.cells, hr]; omega
    · rw [Array.toList_append, zero_cells, Nat.mul_one]
      exact List.take_left' (by simp)
  rcases hown.2 with ⟨rfl, _⟩ | ⟨g, cap, cur, rfl, hbg, hg, hnc, hcm, hcs, htake⟩
  · by_cases h0 : n = 0
    · subst h0
      refine ⟨.slice none 0 0, w, ?_, World.ownsRow_nil w B 21 1, ⟨rfl, rfl, rfl, Nat.le_refl _, fun _ _ _ => rfl⟩⟩
      have hw0 : IntKind.i64.wrap 0 = 0 := by decide
      simp [Builtin.append_, run_underlying Tryd.underlying25, run_underlying Tryd.underlying3, sizeOf, typeInfo, hi, hz2, asInt, asIntOf, hw0]
    · have hr := Lib.run_append_nil_zeros (P := Tryd.prog) w 25 3 ty 21 i0 (.int .i32 0) .i64 .i64 Tryd.underlying25 Tryd.underlying3 hi hz0 n (by omega) (by omega) (by omega) (by rw [hz2]; omega)
      obtain ⟨f1, f2⟩ := hfresh (grownCap w n 0 21) (Value.ownBlock (.slice none 0 0)) (grownCap_ge _ _ _ _) (grownCap_le_maxLen _ _ _ _ (by unfold maxLen; omega)) (Builtin.zeroCells (Value.int .i32 0).cells (grownCap w n 0 21 - n)) (by simp [size_zeroCells, Value.cells])
      exact ⟨_, _, hr, f1, f2⟩
  · have hcs' : cur.size = cap := by omega
    by_cases hroom : n ≤ cap
    · have hst := run_storeCells_at Tryd.prog g 0 21 (List.replicate n (.int .i32 0)) 0 cur w hg (by simp; omega) (fun v hv => by rw [List.eq_of_mem_replicate hv]; rfl)
      refine ⟨.slice (some ⟨g, 0, none⟩) n cap, w.setRow g (cur.toList.take 0 ++ List.replicate n (Value.int .i32 0) ++ cur.toList.drop (0 + (List.replicate n (Value.int .i32 0)).length)).toArray, ?_, ⟨by simp, .inr ⟨g, cap, _, rfl, hbg, setRow_heap w g cur _ 21 _ hg, hroom, hcm, ?_, ?_⟩⟩, ⟨rfl, rfl, rfl, by simp, fun k _ hk => setRow_other w g k _ (fun e => hk (by simp [Value.ownBlock, e]))⟩⟩
      · by_cases h0 : n = 0
        · subst h0
          have hw0 : IntKind.i64.wrap 0 = 0 := by decide
          simp [Builtin.append_, run_underlying Tryd.underlying25, run_underlying Tryd.underlying3, sizeOf, typeInfo, hi, hz2, asInt, asIntOf, hw0, storeCells, setRow_self w g cur 21 (0, 0) hg]
        · have hz' : (Builtin.zeroCells (Value.int .i32 0).cells n).toList = List.replicate n (.int .i32 0) := zero_cells n
          simp [Builtin.append_, run_underlying Tryd.underlying25, run_underlying Tryd.underlying3, sizeOf, typeInfo, zeroValue, hi, hz0, hz1, hz2, asInt, asIntOf, hwn, hneg, h48i, h0, hroom, hz', Addr.add_lit]
          simp at hst
          rw [hst]
          simp
      · simp; omega
      · simp
    · have hr := Lib.run_append_grow_zeros (P := Tryd.prog) w 25 3 ty 21 i0 (.int .i32 0) .i64 .i64 Tryd.underlying25 Tryd.underlying3 hi hz0 (some ⟨g, 0, none⟩) 0 cap [] (by simp [Builtin.firstCells, loadCells, loadCellsFrom, hz1]) n (by omega) (by omega) (by omega) (by omega) (by rw [hz2]; omega) (by rw [hz2]; exact growslice_fits (by omega) (by omega))
      obtain ⟨f1, f2⟩ := hfresh (grownCap w (0 + n) cap 21) (Value.ownBlock (.slice (some ⟨g, 0, none⟩) 0 cap)) (by have := grownCap_ge w (0 + n) cap 21; omega) (grownCap_le_maxLen _ _ _ _ (by unfold maxLen; omega)) (Builtin.zeroCells (Value.int .i32 0).cells (grownCap w (0 + n) cap 21 - (0 + n))) (by simp [size_zeroCells, Value.cells])
      simp only [Array.empty_append, Nat.zero_add] at hr f1 f2
      exact ⟨_, _, hr, f1, f2⟩

end Go.Proofs.Qxb6625871aDoor
