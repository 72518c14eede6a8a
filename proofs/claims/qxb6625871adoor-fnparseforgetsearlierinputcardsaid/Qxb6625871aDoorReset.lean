import Derived.Test.Qxb6625871aDoorZeros
/-! The walk of reset. -/
namespace Go.Proofs.Qxb6625871aDoor
open Go.RowKit Go.Sort

/-- A block of so many cells of a type. -/
def Mold (w : World) (E : Nat) (t : TypeId) (c : Nat) : Prop := ∃ cur, w.heap[E]? = some (.cells cur t (0, 0)) ∧ cur.size = c

theorem Mold.cell {w : World} {E c : Nat} {t : TypeId} (h : Mold w E t c) {o : Nat} (ho : o < c) : ∃ v, w.cell? ⟨E, o, none⟩ = some v := by
  obtain ⟨cur, h1, h2⟩ := h
  exact ⟨cur[o]'(by omega), by rw [cell_of_row w E o cur t (0, 0) h1]; exact Array.getElem?_eq_getElem (by omega)⟩
theorem Mold.frozen {w : World} {E c : Nat} {t : TypeId} (h : Mold w E t c) (o : Nat) : w.frozen? ⟨E, o, none⟩ = false := by
  obtain ⟨cur, h1, h2⟩ := h
  simp [World.frozen?, h1]
theorem Mold.lt {w : World} {E c : Nat} {t : TypeId} (h : Mold w E t c) : E < w.heap.size := by obtain ⟨cur, h1, _⟩ := h; exact (Array.getElem?_eq_some_iff.1 h1).1
theorem Mold.set {w : World} {E c : Nat} {t : TypeId} (h : Mold w E t c) (a : Addr) (u : Value) : Mold (w.setCell a u) E t c := shape_set h a u
theorem Mold.keep {w w' : World} {E c : Nat} {t : TypeId} (h : Mold w E t c) (e : w'.heap[E]? = w.heap[E]?) : Mold w' E t c := by
  obtain ⟨cur, h1, h2⟩ := h; exact ⟨cur, e.trans h1, h2⟩
/-- Blocks of two types are two blocks. -/
theorem Mold.ne {w : World} {E c : Nat} {t : TypeId} (h : Mold w E t c) {g : Nat} {cur : Array Value} {t' : TypeId} {f : Nat × Nat} (hg : w.heap[g]? = some (.cells cur t' f)) (ht : t ≠ t') : E ≠ g := by
  rintro rfl
  obtain ⟨c1, h1, _⟩ := h
  rw [h1] at hg
  injection hg with hg
  injection hg with _ h2
  exact ht h2

/-- The encoder between two inputs. -/
structure Idle (w : World) (B E : Nat) : Prop where
  mold : Mold w E 41 8213
  src : ∃ q n c, w.cell? ⟨E, 0, none⟩ = some (.slice q n c)
  head : ∀ h, h < 8192 → ∃ x, w.cell? ⟨E, 1 + h, none⟩ = some (.int .i32 x)
  prev : ∃ pv pn xs, w.cell? ⟨E, 8193, none⟩ = some pv ∧ w.ownsRow B 21 1 pv pn xs
  steps : ∃ sv sn ys, w.cell? ⟨E, 8212, none⟩ = some sv ∧ w.ownsRow B 47 2 sv sn ys
  eB : B ≤ E

/-- The loop of reset: the heads below k are set. -/
structure Rs (w wr : World) (E k : Nat) : Prop where
  os : wr.os = w.os
  tape : wr.tape = w.tape
  output : wr.output = w.output
  size : wr.heap.size = w.heap.size
  block : ∀ b, b ≠ E → wr.heap[b]? = w.heap[b]?
  mold : Mold wr E 41 8213
  head : ∀ h, h < k → wr.cell? ⟨E, 1 + h, none⟩ = some (.int .i32 (-1))
  other : ∀ o, o = 0 ∨ 8193 ≤ o → wr.cell? ⟨E, o, none⟩ = w.cell? ⟨E, o, none⟩
  tail : ∀ h, h < 8192 → ∃ x, wr.cell? ⟨E, 1 + h, none⟩ = some (.int .i32 x)

theorem Rs.step {w wr : World} {E k : Nat} (h : Rs w wr E k) (hk : k < 8192) : Rs w (wr.setCell ⟨E, 1 + k, none⟩ (.int .i32 (-1))) E (k + 1) := by
  refine ⟨h.os, h.tape, h.output, by simpa [World.setCell] using h.size, fun b hb => by rw [Below.heap_setCell wr ⟨E, 1 + k, none⟩ _ b hb]; exact h.block b hb, h.mold.set _ _, fun i hi => ?_, fun o ho => ?_, fun i hi => ?_⟩
  · by_cases e : i = k
    · subst e
      obtain ⟨v, hv⟩ := h.mold.cell (o := 1 + i) (by omega)
      exact World.cell?_setCell_same (u := v) _ _ _ hv
    · rw [World.cell?_setCell_other _ _ _ _ (by intro e; injection e with _ e2; omega)]; exact h.head i (by omega)
  · rw [World.cell?_setCell_other _ _ _ _ (by intro e; injection e with _ e2; omega)]; exact h.other o ho
  · by_cases e : i = k
    · subst e
      obtain ⟨v, hv⟩ := h.mold.cell (o := 1 + i) (by omega)
      exact ⟨-1, World.cell?_setCell_same (u := v) _ _ _ hv⟩
    · rw [World.cell?_setCell_other _ _ _ _ (by intro e; injection e with _ e2; omega)]; exact h.tail i hi

/-- What reset leaves. -/
structure Rst (w w' : World) (B E : Nat) (sv pv : Value) (n : Nat) : Prop where
  below : Below B w w'
  mold : Mold w' E 41 8213
  src : w'.cell? ⟨E, 0, none⟩ = some sv
  head : ∀ h, h < 8192 → w'.cell? ⟨E, 1 + h, none⟩ = some (.int .i32 (-1))
  prev : w'.cell? ⟨E, 8193, none⟩ = some pv
  row : w'.ownsRow B 21 1 pv n (List.replicate n (.int .i32 0))
  far : ∀ o, 8194 ≤ o → w'.cell? ⟨E, o, none⟩ = w.cell? ⟨E, o, none⟩
  keep : ∀ (k : Nat) (cur : Array Value), w.heap[k]? = some (.cells cur 47 (0, 0)) → w'.heap[k]? = w.heap[k]?

/-- The head of a row of one's own. -/
theorem own_head {w : World} {B n : Nat} {t : TypeId} {s : Nat} {v : Value} {xs : List Value} (h : w.ownsRow B t s v n xs) : (v = .slice none 0 0 ∧ w.ownsRow B t s (.slice none 0 0) 0 []) ∨ ∃ g cap, v = .slice (some ⟨g, 0, none⟩) n cap ∧ n ≤ cap ∧ w.ownsRow B t s (.slice (some ⟨g, 0, none⟩) 0 cap) 0 [] := by
  rcases h.2 with ⟨rfl, _⟩ | ⟨g, cap, cur, rfl, hb, hg, hn, hc, hs, _⟩
  · exact .inl ⟨rfl, World.ownsRow_nil _ _ _ _⟩
  · exact .inr ⟨g, cap, rfl, hn, ⟨by simp, .inr ⟨g, cap, cur, rfl, hb, hg, Nat.zero_le _, hc, hs, by simp⟩⟩⟩

theorem own_slice {w : World} {B n : Nat} {t : TypeId} {s : Nat} {v : Value} {xs : List Value} (h : w.ownsRow B t s v n xs) : ∃ q c, v = .slice q n c := by
  rcases h.2 with ⟨rfl, rfl⟩ | ⟨g, cap, cur, rfl, _⟩
  · exact ⟨_, _, rfl⟩
  · exact ⟨_, _, rfl⟩

/-- Behind the loop, behind the append. -/
theorem rst_of {w wr w2 : World} {B E n pn : Nat} {sv pv pv0 v' : Value} {xs : List Value} (hI : Idle w B E) (hB : B ≤ w.heap.size) (hR : Rs w wr E 8192) (hown : wr.ownsRow B 21 1 pv0 pn xs) (_hp : pv0.ownBlock = pv.ownBlock)
    (ho : w2.ownsRow B 21 1 v' n (List.replicate n (.int .i32 0))) (hg : wr.grownBy w2 pv0.ownBlock) :
    Rst w ((w2.setCell ⟨E, 8193, none⟩ v').setCell ⟨E, 0, none⟩ sv) B E sv v' n := by
  have hEs : wr.heap[E]? = w2.heap[E]? := by
    refine (hg.block E hR.mold.lt ?_).symm
    intro e
    rcases hown.2 with ⟨rfl, _⟩ | ⟨g, cap, cur, rfl, hb, hgg, _⟩
    · cases e
    · simp only [Value.ownBlock, Option.some.injEq] at e
      exact hR.mold.ne hgg (by decide) e
  have hm2 : Mold w2 E 41 8213 := hR.mold.keep hEs.symm
  have c2 : ∀ o, w2.cell? ⟨E, o, none⟩ = wr.cell? ⟨E, o, none⟩ := fun o => World.cell?_of_block (a := ⟨E, o, none⟩) hEs.symm
  have ne : ∀ x y : Nat, x ≠ y → (⟨E, x, none⟩ : Addr) ≠ ⟨E, y, none⟩ := fun x y h e => by injection e with _ e2; exact h e2
  have hbw : Below B w wr := ⟨hR.os, hR.tape, hR.output, Nat.le_of_eq hR.size.symm, fun k hk => hR.block k (by have := hI.eB; omega)⟩
  have hb2 : Below B w w2 := hbw.grown hg (by rw [hR.size]; exact hB) (fun k hk => (hown.lt k hk).1)
  have hv : ∀ k, v'.ownBlock = some k → k ≠ E := by
    intro k hk
    rcases ho.2 with ⟨rfl, _⟩ | ⟨g, cap, cur, rfl, hb, hgg, _⟩
    · cases hk
    · simp only [Value.ownBlock, Option.some.injEq] at hk
      subst hk
      exact fun e => hm2.ne hgg (by decide) e.symm
  have hrow : ∀ (w3 : World) (o : Nat) (u : Value), w3.ownsRow B 21 1 v' n (List.replicate n (.int .i32 0)) → (w3.setCell ⟨E, o, none⟩ u).ownsRow B 21 1 v' n (List.replicate n (.int .i32 0)) := fun w3 o u h =>
    h.kept (row := some E) ⟨rfl, rfl, rfl, by simp [World.setCell], fun k _ hk => Below.heap_setCell w3 ⟨E, o, none⟩ u k (fun e => hk (by rw [e]))⟩ (by
      cases e : v'.ownBlock with
      | none => exact .inl rfl
      | some k => exact .inr (fun e2 => by rw [Option.some.injEq] at e2; exact hv k e e2))
  refine ⟨(hb2.setCell (p := ⟨E, 8193, none⟩) hI.eB _).setCell (p := ⟨E, 0, none⟩) hI.eB _, (hm2.set _ _).set _ _, ?_, fun h hh => ?_, ?_, hrow _ _ _ (hrow _ _ _ ho), fun o ho => ?_, fun k cur hk => ?_⟩
  · obtain ⟨v, hv⟩ := (hm2.set ⟨E, 8193, none⟩ v').cell (o := 0) (by omega)
    exact World.cell?_setCell_same (u := v) _ _ _ hv
  · rw [World.cell?_setCell_other _ _ _ _ (ne _ _ (by omega)), World.cell?_setCell_other _ _ _ _ (ne _ _ (by omega)), c2]; exact hR.head h hh
  · obtain ⟨v, hv⟩ := hm2.cell (o := 8193) (by omega)
    rw [World.cell?_setCell_other _ _ _ _ (ne _ _ (by omega))]
    exact World.cell?_setCell_same (u := v) _ _ _ hv
  · rw [World.cell?_setCell_other _ _ _ _ (ne _ _ (by omega)), World.cell?_setCell_other _ _ _ _ (ne _ _ (by omega)), c2]; exact hR.other o (.inr (by omega))
  · have hkE : k ≠ E := fun e => hI.mold.ne hk (by decide) e.symm
    have hk2 : wr.heap[k]? = w.heap[k]? := hR.block k hkE
    have hk3 : w2.heap[k]? = wr.heap[k]? := by
      refine hg.block k (by rw [hR.size]; exact (Array.getElem?_eq_some_iff.1 hk).1) ?_
      intro e
      rcases hown.2 with ⟨rfl, _⟩ | ⟨g, cap, cur', rfl, hb, hgg, _⟩
      · cases e
      · simp only [Value.ownBlock, Option.some.injEq] at e
        subst e
        rw [hk2, hk] at hgg
        injection hgg with hgg
        injection hgg with _ h2
        exact absurd h2 (by decide)
    rw [Below.heap_setCell _ ⟨E, 0, none⟩ _ k hkE, Below.heap_setCell _ ⟨E, 8193, none⟩ _ k hkE, hk3, hk2]

set_option maxHeartbeats 1000000 in
set_option maxRecDepth 100000 in
theorem reset_at (w : World) (B E : Nat) (q : Option Addr) (n c : Nat) (hI : Idle w B E) (hB : B ≤ w.heap.size) (hn : n ≤ 1048576) :
    Calls Tryd.prog 13 #[.pointer (some ⟨E, 0, none⟩), .slice q n c] w fun e w' => e = .returned (.tuple #[]) ∧ ∃ pv, Rst w w' B E (.slice q n c) pv n := by
  have hIh : Hid (Idle w B E) := hI
  clear hI
  go_enter Tryd.func13, Tryd.ntmps13
  go_wp2
  go_loopw [5] (fun kv wr => ∃ k : Nat, kv = .int .i64 (k : Int) ∧ k ≤ 8192 ∧ Hid (Rs w wr E k)) (fun kv _ => 8192 - (intOf kv).toNat)
  case atStart => exact ⟨0, rfl, by omega, ⟨rfl, rfl, rfl, rfl, fun _ _ => rfl, hIh.out.mold, fun h hh => by omega, fun _ _ => rfl, hIh.out.head⟩⟩
  case round =>
    obtain ⟨k, rfl, hk, hR⟩ := hrel
    by_cases hlt : k < 8192
    · obtain ⟨v, cv⟩ := hR.out.tail k hlt
      have fz := hR.out.mold.frozen (1 + k)
      go_wp2
      go_roundw
      case rel => exact ⟨k + 1, by go_num, by omega, hR.out.step hlt⟩
      case measure => simp [intOf]; omega
    · have hk8 : k = 8192 := by omega
      rw [hk8] at hR
      clear hk8 hk
      obtain ⟨pv, pn, xs, cp, hown⟩ := hIh.out.prev
      rw [← hR.out.other 8193 (.inr (by omega))] at cp
      have hown' : wr.ownsRow B 21 1 pv pn xs := hown.kept (row := some E) ⟨hR.out.os, hR.out.tape, hR.out.output, Nat.le_of_eq hR.out.size.symm, fun k _ hk => hR.out.block k (fun e => hk (by rw [e]))⟩ (by
        rcases hown.2 with ⟨rfl, _⟩ | ⟨g, cap, cur, rfl, hb, hgg, _⟩
        · exact .inl rfl
        · exact .inr (fun e => by simp only [Value.ownBlock, Option.some.injEq] at e; exact hIh.out.mold.ne hgg (by decide) e.symm))
      clear hown
      rcases own_head hown' with ⟨rfl, hown0⟩ | ⟨g, cap, rfl, hnc, hown0⟩
      all_goals clear hown'
      · have hgo : ∃ v' w2, (Builtin.append_ #[25, 3] 25 #[.slice none 0 0, .int .i64 (n : Int)]).run Tryd.prog wr = .ok v' w2 ∧ w2.ownsRow B 21 1 v' n (List.replicate n (.int .i32 0)) ∧ wr.grownBy w2 (Value.ownBlock (.slice none 0 0)) := zeros_own wr B _ 25 hown0 n hn (by rw [hR.out.size]; exact hB)
        obtain ⟨v', w2, hr, ho2, hg2⟩ := hgo
        obtain ⟨q', c', rfl⟩ := own_slice ho2
        have hrst : Hid (Rst w ((w2.setCell ⟨E, 8193, none⟩ (.slice q' n c')).setCell ⟨E, 0, none⟩ (.slice q n c)) B E (.slice q n c) (.slice q' n c') n) := rst_of (pv := .slice none 0 0) hIh.out hB hR.out hown0 rfl ho2 hg2
        have hbk := hg2.block E hR.out.mold.lt (fun e => by cases e)
        have hm2 : Mold w2 E 41 8213 := hR.out.mold.keep hbk
        have cx1 := (World.cell?_of_block (a := ⟨E, 8193, none⟩) hbk).trans cp
        have f1 := hm2.frozen 8193
        obtain ⟨q0, n0, c0, cs0⟩ := hIh.out.src
        rw [← hR.out.other 0 (.inl rfl)] at cs0
        have cx0 : (w2.setCell ⟨E, 8193, none⟩ (.slice q' n c')).cell? ⟨E, 0, none⟩ = some (.slice q0 n0 c0) := by
          rw [World.cell?_setCell_other _ _ _ _ (by intro e; injection e with _ e2; cases e2)]
          exact (World.cell?_of_block (a := ⟨E, 0, none⟩) hbk).trans cs0
        have f0 := (hm2.set ⟨E, 8193, none⟩ (.slice q' n c')).frozen 0
        clear hm2 hbk
        have hgr : Hid (wr.grownBy w2 (Value.ownBlock (.slice none 0 0))) := hg2
        have hon : Hid (w2.ownsRow B 21 1 (.slice q' n c') n (List.replicate n (.int .i32 0))) := ho2
        clear hg2 ho2 hown0
        go_wp2_with (at_builtin; refine Lib.wpList_append_run _ rfl _ _ _ _ rfl _ _ rfl rfl _ _ hr ?_)
        go_wp2
        go_end0
        exact ⟨rfl, (.slice q' n c'), hrst.out⟩
      · have hgo : ∃ v' w2, (Builtin.append_ #[25, 3] 25 #[.slice (some ⟨g, 0, none⟩) 0 cap, .int .i64 (n : Int)]).run Tryd.prog wr = .ok v' w2 ∧ w2.ownsRow B 21 1 v' n (List.replicate n (.int .i32 0)) ∧ wr.grownBy w2 (Value.ownBlock (.slice (some ⟨g, 0, none⟩) 0 cap)) := zeros_own wr B _ 25 hown0 n hn (by rw [hR.out.size]; exact hB)
        obtain ⟨v', w2, hr, ho2, hg2⟩ := hgo
        obtain ⟨q', c', rfl⟩ := own_slice ho2
        have hrst : Hid (Rst w ((w2.setCell ⟨E, 8193, none⟩ (.slice q' n c')).setCell ⟨E, 0, none⟩ (.slice q n c)) B E (.slice q n c) (.slice q' n c') n) := rst_of (pv := .slice (some ⟨g, 0, none⟩) 0 cap) hIh.out hB hR.out hown0 rfl ho2 hg2
        have hbk := hg2.block E hR.out.mold.lt (fun e => by
          rcases hown0.2 with ⟨h, _⟩ | ⟨g', cap', cur, h, hb, hgg, _⟩
          · cases h
          · simp only [Value.slice.injEq, Option.some.injEq, Addr.mk.injEq, and_true, true_and] at h
            obtain ⟨rfl, rfl⟩ := h
            simp only [Value.ownBlock, Option.some.injEq] at e
            exact hR.out.mold.ne hgg (by decide) e)
        have hm2 : Mold w2 E 41 8213 := hR.out.mold.keep hbk
        have cx1 := (World.cell?_of_block (a := ⟨E, 8193, none⟩) hbk).trans cp
        have f1 := hm2.frozen 8193
        obtain ⟨q0, n0, c0, cs0⟩ := hIh.out.src
        rw [← hR.out.other 0 (.inl rfl)] at cs0
        have cx0 : (w2.setCell ⟨E, 8193, none⟩ (.slice q' n c')).cell? ⟨E, 0, none⟩ = some (.slice q0 n0 c0) := by
          rw [World.cell?_setCell_other _ _ _ _ (by intro e; injection e with _ e2; cases e2)]
          exact (World.cell?_of_block (a := ⟨E, 0, none⟩) hbk).trans cs0
        have f0 := (hm2.set ⟨E, 8193, none⟩ (.slice q' n c')).frozen 0
        clear hm2 hbk
        have hgr : Hid (wr.grownBy w2 (Value.ownBlock (.slice (some ⟨g, 0, none⟩) 0 cap))) := hg2
        have hon : Hid (w2.ownsRow B 21 1 (.slice q' n c') n (List.replicate n (.int .i32 0))) := ho2
        clear hg2 ho2 hown0
        go_wp2_with (at_builtin; refine Lib.wpList_append_run _ rfl _ _ _ _ rfl _ _ rfl rfl _ _ hr ?_)
        go_wp2
        go_end0
        exact ⟨rfl, (.slice q' n c'), hrst.out⟩

end Go.Proofs.Qxb6625871aDoor
