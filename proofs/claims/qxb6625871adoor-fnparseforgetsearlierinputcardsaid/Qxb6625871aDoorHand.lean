import Derived.Test.Qxb6625871aDoorRun
import Derived.Laws.OwnMore
/-! The walk of zzStepsOf. -/
namespace Go.Proofs.Qxb6625871aDoor
open Go.RowKit Go.Sort

/-- The first j cells of a row hold f's values, the others nought. -/
structure Bk (w : World) (g k : Nat) (f : Nat → Nat) (j : Nat) : Prop where
  cell : ∀ t, t < k → w.cell? ⟨g, t, none⟩ = some (.int .i32 (if t < j then (f t : Int) else 0))
  froz : ∀ o, w.frozen? ⟨g, o, none⟩ = false

theorem Bk.keep {w w' : World} {g k j : Nat} {f : Nat → Nat} (h : Bk w g k f j) (e : w'.heap[g]? = w.heap[g]?) : Bk w' g k f j :=
  ⟨fun t ht => (World.cell?_of_block (a := ⟨g, t, none⟩) e).trans (h.cell t ht), fun o => (World.frozen?_of_block (a := ⟨g, o, none⟩) e).trans (h.froz o)⟩
theorem Bk.far {w : World} {g k j : Nat} {f : Nat → Nat} (h : Bk w g k f j) {p : Addr} (hp : g ≠ p.block) (u : Value) : Bk (w.setCell p u) g k f j := h.keep (Below.heap_setCell w p u g hp)
theorem Bk.step {w : World} {g k j : Nat} {f : Nat → Nat} (h : Bk w g k f j) (hj : j < k) : Bk (w.setCell ⟨g, j, none⟩ (.int .i32 (f j : Int))) g k f (j + 1) := by
  refine ⟨fun t ht => ?_, fun o => by simp only [World.frozen?_setCell]; exact h.froz o⟩
  by_cases e : t = j
  · subst e
    rw [World.cell?_setCell_same (u := _) _ _ _ (h.cell t ht), if_pos (by omega)]
  · rw [World.cell?_setCell_other _ _ _ _ (by intro e2; injection e2 with _ e3; exact e e3.symm), h.cell t ht]
    by_cases h2 : t < j
    · rw [if_pos h2, if_pos (by omega)]
    · rw [if_neg h2, if_neg (by omega)]

theorem bk_made {w : World} {B k : Nat} {f : Nat → Nat} {g : Nat} (h : w.ownsRow B 21 1 (.slice (some ⟨g, 0, none⟩) k k) k (madeCells #[Value.int .i32 0] k).toList) : Bk w g k f 0 := by
  refine ⟨fun t ht => ?_, h.frozenAt⟩
  rw [h.cellAt t (by omega), toList_madeCells_one, if_neg (by omega)]
  simp [ht]

def fst_ (st : List (Nat × Nat)) (t : Nat) : Nat := (st.getD t (0, 0)).1
def snd_ (st : List (Nat × Nat)) (t : Nat) : Nat := (st.getD t (0, 0)).2

theorem flat_at : ∀ (st : List (Nat × Nat)) (j : Nat), j < st.length → (flat st)[j * 2]? = some (.int .i32 (fst_ st j : Int)) ∧ (flat st)[j * 2 + 1]? = some (.int .i32 (snd_ st j : Int))
  | [], j, h => by simp at h
  | m :: r, 0, _ => by simp [flat, fst_, snd_]
  | m :: r, j + 1, h => by
    have := flat_at r j (by simpa using h)
    rw [show (j + 1) * 2 = j * 2 + 2 by omega]
    simpa [flat, fst_, snd_] using this

/-- Two rows: the lengths and the offsets. -/
structure Two (w : World) (B g1 g2 : Nat) (st : List (Nat × Nat)) : Prop where
  one : ∀ t, t < st.length → w.cell? ⟨g1, t, none⟩ = some (.int .i32 (fst_ st t : Int))
  two : ∀ t, t < st.length → w.cell? ⟨g2, t, none⟩ = some (.int .i32 (snd_ st t : Int))
  b1 : B ≤ g1
  b2 : B ≤ g2

set_option maxHeartbeats 1000000 in
set_option maxRecDepth 100000 in
theorem stepsOf_at (w : World) (B E : Nat) (sv : Value) (st : List (Nat × Nat)) (k : Nat) (hk : st.length = k) (hs : w.cell? ⟨E, 8212, none⟩ = some sv) (ho : w.ownsRow B 47 2 sv st.length (flat st)) (hsm : k ≤ 1048576) :
    Calls Tryd.prog 12 #[.pointer (some ⟨E, 0, none⟩)] w fun e w' => ∃ g1 g2, e = .returned (.tuple #[.slice (some ⟨g1, 0, none⟩) k k, .slice (some ⟨g2, 0, none⟩) k k]) ∧ Two w' w.heap.size g1 g2 st ∧ Below w.heap.size w w' := by
  obtain ⟨i0, hi, hz0, hz1, hz2⟩ := info_parts info21
  have hE : E < w.heap.size := block_lt_of_cell hs
  have hown : Hid (w.ownsRow B 47 2 sv st.length (flat st)) := ho
  obtain ⟨q, c, hq⟩ := own_slice ho
  rw [hk] at hq
  have hkh : Hid (st.length = k) := hk
  clear ho hk
  rw [hq] at hs
  have hsv : Hid (sv = .slice q k c) := hq
  clear hq
  go_enter Tryd.func12, Tryd.ntmps12
  go_wp2_with (at_make; refine wpList_make_full w rfl _ _ 25 rfl w.heap.size 21 i0 (.int .i32 0) 1 Tryd.underlying25 hi hz0 hz1 .i64 .i64 _ _ k rfl rfl rfl rfl ?b2 ?b3 (Nat.le_refl _) ?_)
  case b2 => rw [hz2]; omega
  case b3 => unfold maxLen; omega
  intro w1 hown1 hg1
  have hb1 : Below w.heap.size w w1 := (Below.refl _ _).grown hg1 (Nat.le_refl _) (fun k hk => by cases hk)
  have hA1 : Hid (Bk w1 w.heap.size k (fst_ st) 0) := bk_made hown1
  have hlt1 : w.heap.size < w1.heap.size := (hown1.lt w.heap.size rfl).2
  have hs1 := (hb1.cell (p := ⟨E, 8212, none⟩) hE).trans hs
  have hB1 : Hid (Below w.heap.size w w1) := hb1
  have hs0 := hs
  clear hown1 hg1 hb1 hs
  obtain ⟨g1, hg1⟩ : ∃ g1, Hid (g1 = w.heap.size) := ⟨_, rfl⟩
  rw [← hg1.out] at hA1 hlt1
  rw [← hg1.out]
  go_wp2_with (at_make; refine wpList_make_full w1 rfl _ _ 25 rfl w1.heap.size 21 i0 (.int .i32 0) 1 Tryd.underlying25 hi hz0 hz1 .i64 .i64 _ _ k rfl rfl rfl rfl ?b4 ?b5 (Nat.le_refl _) ?_)
  case b4 => rw [hz2]; omega
  case b5 => unfold maxLen; omega
  intro w2 hown2 hgr2
  have hb2 : Below w1.heap.size w1 w2 := (Below.refl _ _).grown hgr2 (Nat.le_refl _) (fun k hk => by cases hk)
  have hA2 : Hid (Bk w2 w1.heap.size k (snd_ st) 0) := bk_made hown2
  have hA3 : Hid (Bk w2 g1 k (fst_ st) 0) := hA1.out.keep (hb2.block g1 hlt1)
  have hs2 := (hb2.cell (p := ⟨E, 8212, none⟩) (by have := hB1.out.size; show E < _; omega)).trans hs1
  have hB2 : Hid (Below w.heap.size w w2) := hB1.out.trans (hb2.mono hB1.out.size)
  obtain ⟨g2, hg2⟩ : ∃ g2, g2 = w1.heap.size := ⟨_, rfl⟩
  rw [← hg2] at hA2
  rw [← hg2]
  have h12 : g1 ≠ g2 := by omega
  have hg2B : Hid (w.heap.size ≤ g2) := by show _ ≤ _; rw [hg2]; exact hB1.out.size
  clear hown2 hgr2 hA1 hlt1 hs1 hB1 hb2 hg2 hs2
  have hSt : Hid (∀ j, j < k → ∃ s, q = some ⟨s, 0, none⟩ ∧ w.cell? ⟨s, j * 2, none⟩ = some (.int .i32 (fst_ st j : Int)) ∧ w.cell? ⟨s, j * 2 + 1, none⟩ = some (.int .i32 (snd_ st j : Int)) ∧ k ≤ c) := by
    intro j hj
    have hh := hown.out
    rw [hsv.out] at hh
    rcases hh.2 with ⟨h0, _⟩ | ⟨s, cap, cur, h0, hb, hgg, hnc, _⟩
    · injection h0 with _ h1; omega
    · rw [hkh.out] at h0 hnc
      injection h0 with e1 e2 e3
      subst e1 e3
      obtain ⟨f1, f2⟩ := flat_at st j (by rw [hkh.out]; exact hj)
      have c1 := hh.cells (g := s) rfl _ _ f1
      have c2 := hh.cells (g := s) rfl _ _ f2
      rw [Addr.add_lit] at c1 c2
      simp only [Nat.zero_add] at c1 c2
      exact ⟨s, rfl, c1, c2, hnc⟩
  have hEc : Hid (w.cell? ⟨E, 8212, none⟩ = some (.slice q k c)) := hs0
  clear hs0
  go_wp2
  go_loopw [6] (fun jv wr => ∃ j : Nat, jv = .int .i64 (j : Int) ∧ j ≤ k ∧ Hid (Bk wr g1 k (fst_ st) j) ∧ Hid (Bk wr g2 k (snd_ st) j) ∧ Hid (Below w.heap.size w wr)) (fun jv _ => k - (intOf jv).toNat)
  case atStart => exact ⟨0, rfl, Nat.zero_le _, hA3, hA2, hB2⟩
  case round =>
    clear hA3 hA2 hB2
    obtain ⟨j, rfl, hjk, hA, hC, hB⟩ := hrel
    have cE : wr.cell? ⟨E, 8212, none⟩ = some (.slice q k c) := (hB.out.cell (p := ⟨E, 8212, none⟩) hE).trans hEc.out
    by_cases hlt : j < k
    · obtain ⟨s, rfl, c1, c2, hkc⟩ := hSt.out j hlt
      have hsl : s < w.heap.size := block_lt_of_cell c1
      have d1 := (hB.out.cell (p := ⟨s, j * 2, none⟩) hsl).trans c1
      have d2 := (hB.out.cell (p := ⟨s, j * 2 + 1, none⟩) hsl).trans c2
      have a1 := hA.out.cell j hlt
      have a2 := hC.out.cell j hlt
      rw [if_neg (by omega)] at a1 a2
      have f1 := hA.out.froz j
      have f2 := hC.out.froz j
      have nE : ∀ v, (wr.setCell ⟨g1, j, none⟩ v).cell? ⟨E, 8212, none⟩ = some (.slice (some ⟨s, 0, none⟩) k c) := fun v => by
        rw [World.cell?_setCell_other _ _ _ _ (by intro e; injection e with e1; have := hg1.out; omega)]; exact cE
      have n2 : ∀ v, (wr.setCell ⟨g1, j, none⟩ v).cell? ⟨s, j * 2 + 1, none⟩ = some (.int .i32 (snd_ st j : Int)) := fun v => by
        rw [World.cell?_setCell_other _ _ _ _ (by intro e; injection e with e1; have := hg1.out; omega)]; exact d2
      have n3 : ∀ v, (wr.setCell ⟨g1, j, none⟩ v).cell? ⟨g2, j, none⟩ = some (.int .i32 0) := fun v => by
        rw [World.cell?_setCell_other _ _ _ _ (by intro e; injection e with e1; exact h12 e1)]; exact a2
      clear c1 c2
      go_wp2
      go_roundw
      case rel => exact ⟨j + 1, by go_num, by omega, (hA.out.step hlt).far (p := ⟨g2, j, none⟩) h12 _, (hC.out.far (p := ⟨g1, j, none⟩) (Ne.symm h12) _).step hlt, (hB.out.setCell (p := ⟨g1, j, none⟩) (Nat.le_of_eq hg1.out.symm) _).setCell (p := ⟨g2, j, none⟩) hg2B.out _⟩
      case measure => simp [intOf]; omega
    · have hjk2 : j = k := by omega
      rw [hjk2] at hA hC
      go_wp2
      go_ret2
      refine ⟨g1, g2, rfl, ⟨fun t ht => ?_, fun t ht => ?_, Nat.le_of_eq hg1.out.symm, hg2B.out⟩, hB.out⟩
      · rw [hkh.out] at ht
        rw [hA.out.cell t ht, if_pos ht]
      · rw [hkh.out] at ht
        rw [hC.out.cell t ht, if_pos ht]

end Go.Proofs.Qxb6625871aDoor
