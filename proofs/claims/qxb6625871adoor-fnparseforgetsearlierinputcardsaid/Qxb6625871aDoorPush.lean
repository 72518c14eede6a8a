import Derived.Test.Qxb6625871aDoorReset
import Derived.Deep.RegionLaw
/-! The parse's state; a step pushed. -/
namespace Go.Proofs.Qxb6625871aDoor
open Go.RowKit Go.Sort

theorem step_append_run {P : Program} {ops : Array Oper} {o : Oper} {a : Act} {w : World} {K : Act → World → Prop} {Q : Exit → Act → World → Prop} {E : Prop}
    (hg : o.guard = none) (s x : Operand) (t tn : TypeId) (hop : o.op = Op.call { callee := Callee.builtin Builtin.append, args := #[s, x], argTypes := #[t, tn] })
    (vs vx : Value) (hs : a.eval s = vs) (hx : a.eval x = vx) (v' : Value) (w' : World) (hr : (Builtin.append_ #[t, tn] o.type #[vs, vx]).run P w = .ok v' w') (hK : K (a.put o.dst v') w') :
    if Region.wanted o (yielded ops a.tmps) = true then Oper.wp P o a w K Q else E := by
  have hw : Region.wanted o (yielded ops a.tmps) = true := by simp [Region.wanted, hg]
  rw [if_pos hw]
  exact Lib.wp_append_run w s x t tn hop vs vx hs hx v' w' hr hK

def flat : List (Nat × Nat) → List Value
  | [] => []
  | m :: r => .int .i32 (m.1 : Int) :: .int .i32 (m.2 : Int) :: flat r

theorem flat_append : ∀ r q, flat (r ++ q) = flat r ++ flat q
  | [], q => rfl
  | m :: r, q => by simp [flat, flat_append r q]
theorem flat_length : ∀ r, (flat r).length = r.length * 2
  | [] => rfl
  | m :: r => by simp [flat, flat_length r]; omega

theorem push_run (w : World) (B : Nat) (sv : Value) (n : Nat) (xs : List Value) (hown : w.ownsRow B 47 2 sv n xs) (a b : Int) (hn : n ≤ 1048576) (hB : B ≤ w.heap.size) :
    ∃ v' w', (Builtin.append_ #[39, 39] 39 #[sv, .slice (some ⟨w.heap.size, 0, none⟩) 1 1]).run Tryd.prog (w.alloc (.cells #[.int .i32 a, .int .i32 b] 47)) = .ok v' w' ∧
      w'.ownsRow B 47 2 v' (n + 1) (xs ++ [.int .i32 a, .int .i32 b]) ∧ (w.alloc (.cells #[.int .i32 a, .int .i32 b] 47)).grownBy w' sv.ownBlock ∧ (v'.ownBlock = sv.ownBlock ∨ v'.ownBlock = some (w.heap.size + 1)) := by
  obtain ⟨i0, hi, hz0, hz1, hz2⟩ := info_parts info47
  have hown1 := hown.alloc (.cells #[.int .i32 a, .int .i32 b] 47)
  have hl : [Value.int .i32 a, .int .i32 b].length = 1 * 2 := rfl
  have hnews : ∀ j u, [Value.int .i32 a, .int .i32 b][j]? = some u → (w.alloc (.cells #[.int .i32 a, .int .i32 b] 47)).cell? ((⟨w.heap.size, 0, none⟩ : Addr).add j) = some u := by
    intro j u hj
    rw [Addr.add_lit]
    match j, hj with
    | 0, hj => simpa using hj
    | 1, hj => simpa using hj
    | j + 2, hj => simp at hj
  have h1 : ∀ u ∈ [Value.int .i32 a, .int .i32 b], u.oneCell' = true := by
    intro u hu
    simp at hu
    rcases hu with rfl | rfl <;> rfl
  obtain ⟨v', w', hr, ho, hgr, _⟩ := run_append_own (P := Tryd.prog) (w.alloc (.cells #[.int .i32 a, .int .i32 b] 47)) B 39 39 47 i0 _ 2 8 Tryd.underlying39 hi hz0 hz1 hz2 rfl (by decide) sv n xs hown1 ⟨w.heap.size, 0, none⟩ 1 1 _ hl hnews h1 (by unfold maxLen; omega) (by omega) (by simp; omega)
  refine ⟨v', w', hr, ho, hgr, ?_⟩
  rcases hown1.2 with ⟨rfl, rfl⟩ | ⟨g, cap, cur, rfl, hbg, hg, hnc, hcm, hcs, htake⟩
  · have hr2 := run_append_nil (P := Tryd.prog) (w.alloc (.cells #[.int .i32 a, .int .i32 b] 47)) 39 39 47 i0 _ Tryd.underlying39 hi hz0 ⟨w.heap.size, 0, none⟩ 1 1 _ (by rw [hz1]; rfl) hnews (by omega) (by omega) (by rw [hz2]; omega)
    rw [hr] at hr2
    injection hr2 with h2
    rw [h2]
    right
    simp [Value.ownBlock]
  · by_cases hroom : n + 1 ≤ cap
    · have hr2 := run_append_room (P := Tryd.prog) (w.alloc (.cells #[.int .i32 a, .int .i32 b] 47)) 39 39 47 i0 Tryd.underlying39 hi g n cap cur hg ⟨w.heap.size, 0, none⟩ 1 1 _ (by rw [hz1]; rfl) hnews h1 hroom (by rw [hz1]; simp; omega)
      rw [hr] at hr2
      injection hr2 with h2
      rw [h2]
      left
      simp [Value.ownBlock]
    · have hr2 := run_append_grow (P := Tryd.prog) (w.alloc (.cells #[.int .i32 a, .int .i32 b] 47)) 39 39 47 i0 _ Tryd.underlying39 hi hz0 ⟨g, 0, none⟩ n cap xs (by rw [hz1]; exact hown1.1) (hown1.cells (g := g) rfl) ⟨w.heap.size, 0, none⟩ 1 1 _ (by rw [hz1]; rfl) hnews (by omega) (by omega) (growslice_fits (by omega) (by rw [hz2]; omega))
      rw [hr] at hr2
      injection hr2 with h2
      rw [h2]
      right
      simp [Value.ownBlock]

theorem own_keep {w w' : World} {B n s : Nat} {t : TypeId} {v : Value} {xs : List Value} (h : w.ownsRow B t s v n xs) (hk : ∀ k, v.ownBlock = some k → w'.heap[k]? = w.heap[k]?) : w'.ownsRow B t s v n xs := by
  refine ⟨h.1, ?_⟩
  rcases h.2 with h0 | ⟨g, cap, cur, rfl, hb, hg, r⟩
  · exact .inl h0
  · exact .inr ⟨g, cap, cur, rfl, hb, (hk g rfl).trans hg, r⟩
theorem own_type {w : World} {B n s : Nat} {t : TypeId} {v : Value} {xs : List Value} (h : w.ownsRow B t s v n xs) {k : Nat} (hk : v.ownBlock = some k) : B ≤ k ∧ ∃ cur, w.heap[k]? = some (.cells cur t (0, 0)) := by
  rcases h.2 with ⟨rfl, _⟩ | ⟨g, cap, cur, rfl, hb, hg, r⟩
  · cases hk
  · simp only [Value.ownBlock, Option.some.injEq] at hk
    subst hk
    exact ⟨hb, cur, hg⟩

/-- The parse's state: the finder at place p, the steps so far; the box M beside. -/
structure Ps (w wr : World) (B E b cb g cg M : Nat) (l : List UInt8) (p : Nat) (acc : List (Nat × Nat)) : Prop where
  fd : Fd wr E b cb g cg l p
  mold : Mold wr E 41 8213
  steps : ∃ sv, wr.cell? ⟨E, 8212, none⟩ = some sv ∧ wr.ownsRow B 47 2 sv acc.length (flat acc) ∧ (∀ k, sv.ownBlock = some k → k ≠ M)
  below : Below B w wr
  eB : B ≤ E
  gB : B ≤ g
  bB : b < B
  oneB : 1 < B
  sB : B ≤ w.heap.size

section
variable {w wr w' : World} {B E b cb g cg M : Nat} {l : List UInt8} {p p' : Nat} {acc : List (Nat × Nat)}

theorem Ps.fr (h : Ps w wr B E b cb g cg M l p acc) (hF : Fd w' E b cb g cg l p') (hR : Fr E g wr w') : Ps w w' B E b cb g cg M l p' acc := by
  refine ⟨hF, hR.mold 41 8213 h.mold, ?_, h.below.trans ⟨hR.os, hR.tape, hR.output, hR.size, fun k hk => hR.block k ?_ ?_ ?_⟩, h.eB, h.gB, h.bB, h.oneB, h.sB⟩
  · obtain ⟨sv, c1, ho, hm⟩ := h.steps
    refine ⟨sv, by rw [hR.far 8212 (by omega) h.mold.lt]; exact c1, own_keep ho (fun k hk => ?_), hm⟩
    obtain ⟨_, cur, hc⟩ := own_type ho hk
    obtain ⟨gc, hg, _⟩ := h.fd.shape
    refine hR.block k (Array.getElem?_eq_some_iff.1 hc).1 (fun e => h.mold.ne hc (by decide) e.symm) (fun e => ?_)
    subst e
    rw [hg] at hc
    injection hc with hc
    injection hc with _ h2
    exact absurd h2 (by decide)
  · have := h.below.size; have := h.sB; omega
  · have := h.eB; omega
  · have := h.gB; omega

theorem Ps.step (h : Ps w wr B E b cb g cg M l p acc) (hb : Below wr.heap.size wr w') : Ps w w' B E b cb g cg M l p acc := h.fr (h.fd.below hb) (Fr.of_below hb)

/-- A store into the box M. -/
theorem Ps.box (h : Ps w wr B E b cb g cg M l p acc) (hM : B ≤ M) (h1 : M ≠ E) (h2 : M ≠ g) (o : Nat) (u : Value) : Ps w (wr.setCell ⟨M, o, none⟩ u) B E b cb g cg M l p acc := by
  refine ⟨h.fd.setNew u h1 h2 (by have := h.bB; show M ≠ b; omega) (by have := h.oneB; show M ≠ 1; omega), h.mold.set _ _, ?_, h.below.setCell (p := ⟨M, o, none⟩) hM u, h.eB, h.gB, h.bB, h.oneB, h.sB⟩
  obtain ⟨sv, c1, ho, hm⟩ := h.steps
  refine ⟨sv, ?_, own_keep ho (fun k hk => Below.heap_setCell wr ⟨M, o, none⟩ u k (hm k hk)), hm⟩
  rw [World.cell?_setCell_other _ _ _ _ (by intro e; injection e with e1; exact h1 e1)]; exact c1

/-- A step pushed. -/
theorem Ps.push (h : Ps w wr B E b cb g cg M l p acc) (hn : acc.length ≤ 1048576) (hM : M < wr.heap.size) (x y : Nat) :
    ∃ q s c q' c' w2, wr.cell? ⟨E, 8212, none⟩ = some (.slice q s c) ∧ (Builtin.append_ #[39, 39] 39 #[.slice q s c, .slice (some ⟨wr.heap.size, 0, none⟩) 1 1]).run Tryd.prog (wr.alloc (.cells #[.int .i32 (x : Int), .int .i32 (y : Int)] 47)) = .ok (.slice q' (acc.length + 1) c') w2 ∧
      w2.cell? ⟨E, 8212, none⟩ = some (.slice q s c) ∧ w2.frozen? ⟨E, 8212, none⟩ = false ∧
      Ps w (w2.setCell ⟨E, 8212, none⟩ (.slice q' (acc.length + 1) c')) B E b cb g cg M l p (acc ++ [(x, y)]) ∧
      ∀ N x1 x2, Box wr N x1 x2 → N ≠ E → (∀ sv k, wr.cell? ⟨E, 8212, none⟩ = some sv → sv.ownBlock = some k → k ≠ N) → Box (w2.setCell ⟨E, 8212, none⟩ (.slice q' (acc.length + 1) c')) N x1 x2 := by
  obtain ⟨sv, c1, ho, hm⟩ := h.steps
  have hBw : B ≤ wr.heap.size := by have := h.below.size; have := h.sB; omega
  obtain ⟨v', w2, hr, ho2, hg2, hwh⟩ := push_run wr B sv acc.length (flat acc) ho (x : Int) (y : Int) hn hBw
  obtain ⟨q, c, rfl⟩ := own_slice ho
  obtain ⟨q', c', rfl⟩ := own_slice ho2
  have hsz : (wr.alloc (.cells #[.int .i32 (x : Int), .int .i32 (y : Int)] 47)).heap.size = wr.heap.size + 1 := by simp
  have hkeep : ∀ k, k < wr.heap.size → (∀ cur, wr.heap[k]? ≠ some (.cells cur 47 (0, 0))) ∨ (∀ kk, (Value.slice q acc.length c).ownBlock = some kk → kk ≠ k) → w2.heap[k]? = wr.heap[k]? := by
    intro k hk hne
    rw [hg2.block k (by omega) ?_]
    · exact heap_alloc_old wr _ hk
    · intro e
      rcases hne with hne | hne
      · obtain ⟨_, cur, hc⟩ := own_type ho e.symm
        exact hne cur hc
      · exact hne _ e.symm rfl
  have nE : ∀ cur, wr.heap[E]? ≠ some (.cells cur 47 (0, 0)) := fun cur hc => h.mold.ne hc (by decide) rfl
  have ng : ∀ cur, wr.heap[g]? ≠ some (.cells cur 47 (0, 0)) := fun cur hc => by
    obtain ⟨gc, hg, _⟩ := h.fd.shape
    rw [hg] at hc
    injection hc with hc
    injection hc with _ h2
    exact absurd h2 (by decide)
  have kE := hkeep E h.mold.lt (.inl nE)
  have kg := hkeep g h.fd.g_lt (.inl ng)
  have kB : ∀ k, k < B → w2.heap[k]? = wr.heap[k]? := by
    intro k hk
    rw [hg2.block k (by omega) ?_]
    · exact heap_alloc_old wr _ (by omega)
    · intro e
      have := (own_type ho e.symm).1
      omega
  have hF2 : Fd w2 E b cb g cg l p := h.fd.keep kE kg (kB b h.bB) (kB 1 h.oneB)
  have hm2 : Mold w2 E 41 8213 := h.mold.keep kE
  have hb2 : Below B wr w2 := ⟨hg2.os, hg2.tape, hg2.output, by have := hg2.size; omega, kB⟩
  have hvM : ∀ k, (Value.slice q' (acc.length + 1) c').ownBlock = some k → k ≠ M := by
    intro k hk
    rcases hwh with e | e
    · rw [hk] at e; exact hm k e.symm
    · rw [hk, Option.some.injEq] at e; omega
  have c2 := (World.cell?_of_block (a := ⟨E, 8212, none⟩) kE).trans c1
  refine ⟨q, acc.length, c, q', c', w2, c1, hr, c2, hm2.frozen 8212, ?_, ?_⟩
  · refine ⟨hF2.setFar 8212 (by omega) _, hm2.set _ _, ⟨_, World.cell?_setCell_same (u := _) _ _ _ c2, ?_, hvM⟩, (h.below.trans hb2).setCell (p := ⟨E, 8212, none⟩) h.eB _, h.eB, h.gB, h.bB, h.oneB, h.sB⟩
    rw [List.length_append, flat_append]
    refine own_keep ho2 (fun k hk => Below.heap_setCell w2 ⟨E, 8212, none⟩ _ k (fun e => ?_))
    obtain ⟨_, cur, hc⟩ := own_type ho2 hk
    exact hm2.ne hc (by decide) e.symm
  · intro N x1 x2 hX hNE hN
    exact (hX.keep (hkeep N hX.lt (.inr (fun kk hk => hN _ kk c1 hk)))).far (p := ⟨E, 8212, none⟩) hNE _

theorem Ps.apart (h : Ps w wr B E b cb g cg M l p acc) : ∀ sv k, wr.cell? ⟨E, 8212, none⟩ = some sv → sv.ownBlock = some k → k ≠ M := by
  intro sv k hc hk
  obtain ⟨sv', c1, _, hm⟩ := h.steps
  rw [hc] at c1
  injection c1 with c1
  subst c1
  exact hm k hk

theorem Ps.fresh (h : Ps w wr B E b cb g cg M l p acc) (N : Nat) (hN : wr.heap.size ≤ N) : Ps w wr B E b cb g cg N l p acc := by
  refine ⟨h.fd, h.mold, ?_, h.below, h.eB, h.gB, h.bB, h.oneB, h.sB⟩
  obtain ⟨sv, c1, ho, _⟩ := h.steps
  exact ⟨sv, c1, ho, fun k hk => by have := (ho.lt k hk).2; omega⟩
end

theorem best_at (E b cb g cg : Nat) (l : List UInt8) (i D : Nat) (w : World) (hF : Fd w E b cb g cg l i) (hi : i ≤ l.length) (hD : D ≤ 1000) :
    Calls Tryd.prog 14 #[.pointer (some ⟨E, 0, none⟩), .int .i64 (i : Int), .int .i64 (D : Int)] w
      fun e w' => e = .returned (.agg #[.int .i32 ((bst l i D).1 : Int), .int .i32 ((bst l i D).2 : Int)]) ∧ Fd w' E b cb g cg l (i + 1) ∧ Fr E g w w' := by
  by_cases h4 : i + 4 ≤ l.length
  · exact best_in E b cb g cg l i D w hF h4 hD
  · have hs := hF.small
    refine (best_out E l.length cb i D _ w hF.src (by omega) (by omega)).mono ?_
    rintro e w' ⟨rfl, hb⟩
    have e0 : bst l i D = (0, 0) := by unfold bst; rw [if_pos (by omega)]
    rw [e0]
    exact ⟨rfl, (hF.below hb).pass (by omega), Fr.of_below hb⟩

end Go.Proofs.Qxb6625871aDoor
