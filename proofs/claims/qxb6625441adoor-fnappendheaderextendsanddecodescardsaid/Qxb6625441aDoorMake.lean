import Derived.Test.Qxb6625441aDoorSmall
import Derived.Test.Qxb6625441aDoorShelf
import Derived.Laws.CopyOwn
import Derived.Lib.AppendStr
import Derived.Lib.Hide
/-! The walks of what makes memory: zzClone, appendHeader. -/
namespace Go.Proofs.Qxb6625441aDoor
open Go.RowKit Go.Lib

theorem infoByte : (Tryd.prog.info? 5).map (fun i => (i.zero, i.size, i.bytes)) = some (some (.int .u8 0), 1, 1) := by kernel_rfl
theorem sizeByte : (Tryd.prog.info? 5).map (·.size) = some 1 := by kernel_rfl

theorem byteCells_length (l : List UInt8) : (byteCells l).length = l.length := by simp [byteCells]
theorem byteCells_append (l m : List UInt8) : byteCells (l ++ m) = byteCells l ++ byteCells m := by simp [byteCells]
theorem byteCells_at {l : List UInt8} {j : Nat} {u : Value} (h : (byteCells l)[j]? = some u) : j < l.length ∧ u = .int .u8 ((l.getD j 0).toNat : Int) := by
  have hj : j < l.length := by
    have := (List.getElem?_eq_some_iff.1 h).1
    simpa [byteCells] using this
  refine ⟨hj, ?_⟩
  simp [byteCells, List.getElem?_eq_getElem hj] at h
  simp [List.getElem?_eq_getElem hj, h]

/-- What is owned can be read. -/
theorem Rd.of_own {w : World} {B : Nat} {v : Value} {l : List UInt8} (h : w.ownsRow B 5 1 v l.length (byteCells l)) : Rd w v l := by
  rcases h.2 with ⟨rfl, h0⟩ | ⟨g, cap, cur, rfl, hb, hg, r⟩
  · exact .inl ⟨List.eq_nil_of_length_eq_zero h0, none, 0, rfl⟩
  · refine .inr ⟨g, 0, cap, rfl, fun i hi => ?_⟩
    have := h.cells (g := g) rfl i (.int .u8 ((l.getD i 0).toNat : Int)) (by simp [byteCells, hi])
    rw [Addr.add_lit] at this
    exact this

theorem Rd.below {w w' : World} {v : Value} {l : List UInt8} {B : Nat} (h : Rd w v l) (hB : ∀ k, v.ownBlock = some k → k < B) (hb : Below B w w') : Rd w' v l := by
  rcases h with h | ⟨b, o, c, rfl, hc⟩
  · exact .inl h
  · exact .inr ⟨b, o, c, rfl, fun i hi => (hb.cell (p := ⟨b, o + i, none⟩) (hB b rfl)).trans (hc i hi)⟩

theorem Rd.keep {w w' : World} {v : Value} {l : List UInt8} (h : Rd w v l) (hb : Below w.heap.size w w') : Rd w' v l := by
  rcases h with h | ⟨b, o, c, rfl, hc⟩
  · exact .inl h
  · exact .inr ⟨b, o, c, rfl, fun i hi => (hb.cell (p := ⟨b, o + i, none⟩) (World.block_lt_of_cell? w ⟨b, o + i, none⟩ (hc i hi))).trans (hc i hi)⟩

theorem Rd.drewN {w : World} {v : Value} {l : List UInt8} (h : Rd w v l) (q : Nat) : Rd (w.drewN q) v l := h

set_option maxHeartbeats 400000 in
theorem clone_nil (c : Nat) (w : World) :
    Calls Tryd.prog 6 #[.slice none 0 c] w fun e w' => e = .returned (.slice none 0 0) ∧ w' = w := by
  have hnil := fun (wx : World) => Lib.run_eql_slice_nil (P := Tryd.prog) wx 22 5 none 0 c 0 0 Tryd.underlying22
  go_enter Tryd.func6, Tryd.ntmps6
  go_wp2
  go_ret
  exact ⟨rfl, rfl⟩

set_option maxHeartbeats 400000 in
theorem clone_some (b o c : Nat) (l : List UInt8) (hl : l.length ≤ 1048576) (w : World)
    (hc : ∀ i, i < l.length → w.cell? ⟨b, o + i, none⟩ = some (.int .u8 ((l.getD i 0).toNat : Int))) :
    Calls Tryd.prog 6 #[.slice (some ⟨b, o, none⟩) l.length c] w fun e w' => ∃ v', e = .returned v' ∧ (∃ a, v' = .slice a l.length l.length) ∧ w'.ownsRow w.heap.size 5 1 v' l.length (byteCells l) ∧ Below w.heap.size w w' := by
  obtain ⟨i0, hi, hz0, hz1, hz2⟩ := info_parts infoByte
  have hnil := fun (wx : World) => Lib.run_eql_slice_nil (P := Tryd.prog) wx 22 5 (some ⟨b, o, none⟩) l.length c 0 0 Tryd.underlying22
  go_enter Tryd.func6, Tryd.ntmps6
  go_wp2_with (at_make; refine wpList_make_full w rfl _ _ 22 rfl w.heap.size 5 i0 (.int .u8 0) 1 Tryd.underlying22 hi hz0 hz1 .i64 .i64 _ _ l.length rfl rfl rfl rfl ?b2 ?b3 (Nat.le_refl _) ?_)
  case b2 => rw [hz2]; omega
  case b3 => unfold maxLen; omega
  intro w1 hown1 hg1
  have hb1 : Below w.heap.size w w1 := (Below.refl _ _).grown hg1 (Nat.le_refl _) (fun k hk => by cases hk)
  rcases hown1.2 with ⟨hx, _⟩ | ⟨g, cap, cur, hv, hbg, hh, hnc, hcm, hcs, htake⟩
  · cases hx
  simp only [Value.slice.injEq, Option.some.injEq, Addr.mk.injEq, and_true] at hv
  obtain ⟨rfl, -, rfl⟩ := hv
  have hcp := run_copy_row (P := Tryd.prog) w1 22 22 3 5 w.heap.size 0 l.length l.length ⟨b, o, none⟩ l.length c cur 5 (byteCells l) Tryd.underlying22 sizeByte hh (by simp [byteCells])
    (fun j v hj => by
      obtain ⟨h1, rfl⟩ := byteCells_at hj
      rw [Addr.add_lit]
      have hbw : b < w.heap.size := World.block_lt_of_cell? w ⟨b, o + j, none⟩ (hc j h1)
      exact (hb1.cell (p := ⟨b, o + j, none⟩) hbw).trans (hc j h1))
    (by simp [byteCells]; omega) (fun v hv => by simp [byteCells] at hv; obtain ⟨x, _, rfl⟩ := hv; rfl)
  go_wp2
  go_ret
  have hcl : (byteCells l).length = l.length := byteCells_length l
  refine ⟨_, rfl, ⟨_, rfl⟩, ⟨by simp [hcl], .inr ⟨w.heap.size, l.length, _, rfl, Nat.le_refl _, setRow_heap w1 w.heap.size cur _ 5 _ hh, Nat.le_refl _, hcm, ?_, ?_⟩⟩, below_setRow hb1 (Nat.le_refl _) _⟩
  · simp [hcl]; omega
  · rw [List.take_append_of_le_length (by simp [hcl])]
    simp [← hcl]

set_option maxHeartbeats 400000 in
theorem clone_empty (a : Addr) (c : Nat) (w : World) :
    Calls Tryd.prog 6 #[.slice (some a) 0 c] w fun e w' => ∃ v', e = .returned v' ∧ (∃ a, v' = .slice a 0 0) ∧ w'.ownsRow w.heap.size 5 1 v' 0 (byteCells []) ∧ Below w.heap.size w w' := by
  obtain ⟨i0, hi, hz0, hz1, hz2⟩ := info_parts infoByte
  have hnil := fun (wx : World) => Lib.run_eql_slice_nil (P := Tryd.prog) wx 22 5 (some a) 0 c 0 0 Tryd.underlying22
  have hcp := fun (wx : World) (d : Option Addr) => run_copy_none (P := Tryd.prog) wx 22 22 3 5 d (some a) 0 0 0 c Tryd.underlying22 sizeByte rfl
  go_enter Tryd.func6, Tryd.ntmps6
  go_wp2_with (at_make; refine wpList_make_full w rfl _ _ 22 rfl w.heap.size 5 i0 (.int .u8 0) 1 Tryd.underlying22 hi hz0 hz1 .i64 .i64 _ _ 0 rfl rfl rfl rfl ?b2 ?b3 (Nat.le_refl _) ?_)
  case b2 => simp
  case b3 => simp
  intro w1 hown1 hg1
  have hb1 : Below w.heap.size w w1 := (Below.refl _ _).grown hg1 (Nat.le_refl _) (fun k hk => by cases hk)
  go_wp2
  go_ret
  have e0 : (madeCells #[Value.int IntKind.u8 0] 0).toList = byteCells [] := by rw [toList_madeCells_one]; rfl
  rw [e0] at hown1
  exact ⟨_, rfl, ⟨_, rfl⟩, hown1, hb1⟩

/-- zzClone: a new row of the call's own with the same bytes (nil for nil). -/
theorem clone_any (v : Value) (l : List UInt8) (hl : l.length ≤ 1048576) (w : World) (hv : Rd w v l) :
    Calls Tryd.prog 6 #[v] w fun e w' => ∃ v', e = .returned v' ∧ (∃ a, v' = .slice a l.length l.length) ∧ w'.ownsRow w.heap.size 5 1 v' l.length (byteCells l) ∧ Below w.heap.size w w' := by
  rcases hv with ⟨rfl, a, c, rfl⟩ | ⟨b, o, c, rfl, hc⟩
  · cases a with
    | none =>
      refine (clone_nil c w).mono fun e w' ⟨he, hw⟩ => ?_
      subst hw
      exact ⟨_, he, ⟨none, rfl⟩, World.ownsRow_nil _ _ _ _, Below.refl _ _⟩
    | some a => exact clone_empty a c w
  · exact clone_some b o c l hl w hc

set_option maxHeartbeats 1000000 in
theorem hdr_any (B : Nat) (sv : Value) (xs : List UInt8) (t : UInt8) (n : Int) (h0 : -9223372036854775808 ≤ n) (h1 : n ≤ 9223372036854775807) (w : World)
    (hown : w.ownsRow B 5 1 sv xs.length (byteCells xs)) (hB : B ≤ w.heap.size) (hlim : xs.length ≤ 1073741824)
    (hT : Lib.TabBelow Tryd.prog B w "internal/strconv.uint64pow10" .u64 Lib.pow10Tab) :
    Calls Tryd.prog 12 #[sv, .int .u8 (t.toNat : Int), .int .i64 n] w fun e w' => ∃ v', e = .returned v' ∧ w'.ownsRow B 5 1 v' (xs ++ hdr t n).length (byteCells (xs ++ hdr t n)) ∧ Below B w w' := by
  obtain ⟨i0, hi, hz0, hz1, hz2⟩ := info_parts infoByte
  have ln := Lib.itoa_length_le n h0 h1
  go_enter Tryd.func12, Tryd.ntmps12
  go_wp2_with (at_builtin; refine wpList_append_own _ rfl _ _ 22 rfl B 5 i0 (.int .u8 0) 1 1 Tryd.underlying22 hi hz0 hz1 hz2 rfl (by decide) _ _ _ rfl (hown.alloc _) ⟨w.heap.size, 0, none⟩ 1 1 [Value.int .u8 (t.toNat : Int)] rfl rfl ?c1 ?c2 ?c3 ?c4 ?c5 ?_)
  case c1 => intro j u' hj; match j, hj with | 0, hj => simp at hj; subst hj; simp [Addr.add]
  case c2 => intro u' hu'; simp at hu'; subst hu'; rfl
  case c3 => unfold maxLen; omega
  case c4 => omega
  case c5 => simp; omega
  intro v2 w2 hown2 hgrow _
  have hnx2 : Below B w w2 := ((Below.refl B w).alloc hB _).grown hgrow (by simp; omega) (fun k hk => (hown.lt k hk).1)
  have hB2 : B ≤ w2.heap.size := by have := hnx2.size; omega
  have hq : xs.length + 1 + 21 ≤ 140737488355328 := by omega
  go_wp2_with (go_at_call 14; go_must (refine (Tryd.strconv_AppendInt_10 B _ n h0 h1 v2 _ w2 hown2 hB2 hq (hT.on hnx2)).mono ?_); rintro e w3 ⟨v3, rfl, hown3, hnx3, -⟩; refine Hid.out ?_)
  refine Lib.hid ?_
  have hB3 : B ≤ w3.heap.size := by have := hnx3.size; omega
  go_wp2_with (at_builtin; refine wpList_append_own_string _ rfl _ _ 22 9 rfl B 5 i0 Tryd.underlying22 Tryd.underlying9 hi hz0 hz1 hz2 _ _ _ rfl hown3 _ rfl ?d1 ?d2 hB3 ?_)
  case d1 => unfold maxLen; show _ + 2 ≤ _; omega
  case d2 => show _ + 2 ≤ _; omega
  intro v4 w4 hown4 hgrow4 _
  have hnx4 : Below B w3 w4 := (Below.refl B w3).grown hgrow4 hB3 (fun k hk => (hown3.lt k hk).1)
  go_wp2
  go_ret
  refine ⟨_, rfl, ?_, (hnx2.trans hnx3).trans hnx4⟩
  have e1 : byteCells (xs ++ hdr t n) = byteCells xs ++ Value.int .u8 (t.toNat : Int) :: (byteCells (itoa n) ++ strCells { data := #[13, 10] }) := by
    simp [byteCells, hdr, strCells]
  have e2 : (xs ++ hdr t n).length = xs.length + 1 + (itoa n).length + 2 := by simp [hdr]; omega
  rw [e1, e2]
  exact hown4

set_option maxHeartbeats 400000 in
/-- The thin door of appendHeader. -/
theorem zhdr_any (B : Nat) (sv : Value) (xs : List UInt8) (t : UInt8) (n : Int) (h0 : -9223372036854775808 ≤ n) (h1 : n ≤ 9223372036854775807) (w : World)
    (hown : w.ownsRow B 5 1 sv xs.length (byteCells xs)) (hB : B ≤ w.heap.size) (hlim : xs.length ≤ 1073741824)
    (hT : Lib.TabBelow Tryd.prog B w "internal/strconv.uint64pow10" .u64 Lib.pow10Tab) :
    Calls Tryd.prog 7 #[sv, .int .u8 (t.toNat : Int), .int .i64 n] w fun e w' => ∃ v', e = .returned v' ∧ w'.ownsRow B 5 1 v' (xs ++ hdr t n).length (byteCells (xs ++ hdr t n)) ∧ Below B w w' := by
  go_enter Tryd.func7, Tryd.ntmps7
  go_wp2_with (go_at_call 12; refine (hdr_any B sv xs t n h0 h1 w hown hB hlim hT).mono ?_; rintro e w2 ⟨v2, rfl, hown2, hnx2⟩)
  go_ret
  exact ⟨_, rfl, hown2, hnx2⟩

end Go.Proofs.Qxb6625441aDoor
