import Derived.Test.Qxb6625871aDoorIns
import Derived.Deep.Cut
/-! The walk of best. -/
namespace Go.Proofs.Qxb6625871aDoor
open Go.RowKit Go.Sort

theorem cellNew {w : World} {a : Addr} {v : Value} (o : Obj) (h : w.cell? a = some v) : (w.alloc o).cell? a = some v := by
  rw [World.cell?_alloc_lt w o a (block_lt_of_cell h)]; exact h

/-- A match in memory. -/
structure Box (w : World) (R : Nat) (a b : Int) : Prop where
  c0 : w.cell? ⟨R, 0, none⟩ = some (.int .i32 a)
  c1 : w.cell? ⟨R, 1, none⟩ = some (.int .i32 b)
  f0 : ∀ o, w.frozen? ⟨R, o, none⟩ = false

theorem Box.lt {w : World} {R : Nat} {a b : Int} (h : Box w R a b) : R < w.heap.size := block_lt_of_cell h.c0
theorem Box.keep {w w' : World} {R : Nat} {a b : Int} (h : Box w R a b) (e : w'.heap[R]? = w.heap[R]?) : Box w' R a b :=
  ⟨(World.cell?_of_block (a := ⟨R, 0, none⟩) e).trans h.c0, (World.cell?_of_block (a := ⟨R, 1, none⟩) e).trans h.c1, fun o => (World.frozen?_of_block (a := ⟨R, o, none⟩) e).trans (h.f0 o)⟩
theorem Box.below {w w' : World} {R : Nat} {a b : Int} (h : Box w R a b) (hb : Below w.heap.size w w') : Box w' R a b := h.keep (hb.block _ h.lt)
theorem Box.fr {w w' : World} {R E g : Nat} {a b : Int} (h : Box w R a b) (hb : Fr E g w w') (h1 : R ≠ E) (h2 : R ≠ g) : Box w' R a b := h.keep (hb.block _ h.lt h1 h2)
theorem Box.alloc {w : World} {R : Nat} {a b : Int} (h : Box w R a b) (o : Obj) : Box (w.alloc o) R a b := h.below ((Below.refl _ _).alloc (Nat.le_refl _) o)
theorem Box.far {w : World} {R : Nat} {a b : Int} (h : Box w R a b) {p : Addr} (hp : R ≠ p.block) (u : Value) : Box (w.setCell p u) R a b := h.keep (Below.heap_setCell w p u R hp)
theorem Box.new (w : World) (a b : Int) (t : TypeId) : Box (w.alloc (.cells #[.int .i32 a, .int .i32 b] t)) w.heap.size a b :=
  ⟨by simp, by simp, fun o => by simp⟩
theorem Box.set {w : World} {R : Nat} {a b : Int} (h : Box w R a b) (c d : Int) : Box ((w.setCell ⟨R, 0, none⟩ (.int .i32 c)).setCell ⟨R, 1, none⟩ (.int .i32 d)) R c d := by
  have n01 : ∀ x y : Nat, x ≠ y → (⟨R, x, none⟩ : Addr) ≠ ⟨R, y, none⟩ := fun x y h e => by injection e with _ e2; exact h e2
  refine ⟨?_, ?_, fun o => by simp only [World.frozen?_setCell]; exact h.f0 o⟩
  · rw [World.cell?_setCell_other _ _ _ _ (n01 1 0 (by decide)), World.cell?_setCell_same (u := _) _ _ _ h.c0]
  · rw [World.cell?_setCell_same (u := .int .i32 b) _ _ _ (by rw [World.cell?_setCell_other _ _ _ _ (n01 0 1 (by decide))]; exact h.c1)]

set_option maxHeartbeats 1000000 in
theorem best_out (E n cb i D : Nat) (q : Option Addr) (w : World) (hs : w.cell? ⟨E, 0, none⟩ = some (.slice q n cb)) (hi : n < i + 4) (hsm : i ≤ 4194304) :
    Calls Tryd.prog 14 #[.pointer (some ⟨E, 0, none⟩), .int .i64 (i : Int), .int .i64 (D : Int)] w fun e w' => e = .returned (.agg #[.int .i32 0, .int .i32 0]) ∧ Below w.heap.size w w' := by
  have hE : E < w.heap.size := block_lt_of_cell hs
  have hs' := cellNew (.cells #[.int .i32 0, .int .i32 0] 47) hs
  go_enter Tryd.func14, Tryd.ntmps14
  go_wp2
  refine bodyPost_ret (v := .agg #[.int .i32 0, .int .i32 0]) (by simp [results, Tryd.results14, go_sem]) rfl ?_
  exact ⟨rfl, (Below.refl _ _).alloc (Nat.le_refl _) _⟩

theorem bl_neg (l : List UInt8) (i : Nat) : ∀ k J m V len, J < 0 → bl l i k J m V len = m
  | 0, _, _, _, _, _ => rfl
  | k + 1, J, m, V, len, h => by unfold bl; rw [if_pos h]
theorem bl_skip (l : List UInt8) (i k j : Nat) (m : Nat × Nat) (V : Int) (len : Nat) (h : tak l i j m V len = false) : bl l i (k + 1) (j : Int) m V len = bl l i k (nx l j) m V len := by
  conv => lhs; unfold bl
  rw [if_neg (by omega), Int.toNat_natCast, if_neg (by rw [h]; decide)]
theorem bl_fin (l : List UInt8) (i k j : Nat) (m : Nat × Nat) (V : Int) (len : Nat) (h : tak l i j m V len = true) (hf : fin l i j = true) : bl l i (k + 1) (j : Int) m V len = cand l i j := by
  conv => lhs; unfold bl
  rw [if_neg (by omega), Int.toNat_natCast, if_pos h, if_pos hf]
theorem bl_take (l : List UInt8) (i k j : Nat) (m : Nat × Nat) (V : Int) (len : Nat) (h : tak l i j m V len = true) (hf : fin l i j = false) : bl l i (k + 1) (j : Int) m V len = bl l i k (nx l j) (cand l i j) (val (cand l i j)) (cand l i j).1 := by
  conv => lhs; unfold bl
  rw [if_neg (by omega), Int.toNat_natCast, if_pos h, if_neg (by rw [hf]; decide)]

set_option maxHeartbeats 2000000 in
set_option maxRecDepth 100000 in
theorem best_in (E b cb g cg : Nat) (l : List UInt8) (i D : Nat) (w : World) (hF : Fd w E b cb g cg l i) (h4 : i + 4 ≤ l.length) (hD : D ≤ 1000) :
    Calls Tryd.prog 14 #[.pointer (some ⟨E, 0, none⟩), .int .i64 (i : Int), .int .i64 (D : Int)] w
      fun e w' => e = .returned (.agg #[.int .i32 ((bst l i D).1 : Int), .int .i32 ((bst l i D).2 : Int)]) ∧ Fd w' E b cb g cg l (i + 1) ∧ Fr E g w w' := by
  have hFh : Hid (Fd w E b cb g cg l i) := hF
  have cs := hF.src
  have hsm := hF.small
  have hlb := hF.lb
  clear hF
  obtain ⟨d, hd⟩ : ∃ d, l.length = i + d := ⟨l.length - i, by omega⟩
  obtain ⟨dc, rfl⟩ : ∃ dc, cb = i + dc := ⟨cb - i, by omega⟩
  rw [hd] at cs
  have hE : E < w.heap.size := block_lt_of_cell cs
  have cs' := cellNew (.cells #[.int .i32 0, .int .i32 0] 47) cs
  go_enter Tryd.func14, Tryd.ntmps14
  go_wp2_with fail
  refine (hash_at b i d dc l _ (by omega) h4 (hFh.out.alloc _).text).mono ?_
  rintro e w1 ⟨rfl, hb1⟩
  have hF1 : Hid (Fd w1 E b (i + dc) g cg l i) := (hFh.out.alloc _).below hb1
  have hR1 : Hid (Fr E g w w1) := ((Fr.refl E g w).alloc _).below hb1
  have hBR : Hid (Box w1 w.heap.size 0 0) := (Box.new w 0 0 47).below hb1
  obtain ⟨R, hR⟩ : ∃ R, R = w.heap.size := ⟨_, rfl⟩
  rw [← hR] at hBR
  have hRn : Hid (w.heap.size ≤ R) := Nat.le_of_eq hR.symm
  rw [← hR]
  obtain ⟨H, hH⟩ : ∃ H, H = hsh l i := ⟨_, rfl⟩
  have hh : H < 8192 := by rw [hH]; exact hsh_lt l i
  obtain ⟨X, hX⟩ : ∃ X, X = last l i H := ⟨_, rfl⟩
  have c1 := hF1.out.head _ hh
  rw [← hX] at c1
  have c2 := hF1.out.prev
  obtain ⟨x, c3⟩ := hF1.out.row i (by omega)
  have f1 := hF1.out.fE (1 + H)
  have f2 := hF1.out.fg i
  have c1' : ∀ v, (w1.setCell ⟨g, i, none⟩ v).cell? ⟨E, 1 + H, none⟩ = some (.int .i32 X) := fun v => by
    rw [World.cell?_setCell_other _ _ _ _ (by intro e; injection e with e1; exact hF1.out.eg e1.symm)]; exact c1
  have c3' : ∀ v, (w1.setCell ⟨E, 1 + H, none⟩ v).cell? ⟨g, i, none⟩ = some (.int .i32 x) := fun v => by
    rw [World.cell?_setCell_other _ _ _ _ (by intro e; injection e with e1; exact hF1.out.eg e1)]; exact c3
  rw [hd] at c2
  rw [← hH]
  have hin : Hid (Fd ((w1.setCell ⟨g, i, none⟩ (.int .i32 X)).setCell ⟨E, 1 + H, none⟩ (.int .i32 (i : Int))).drew E b (i + dc) g cg l (i + 1)) := by
    rw [hX, hH]; exact (hF1.out.insert h4).drew
  have hR2 : Hid (Fr E g w ((w1.setCell ⟨g, i, none⟩ (.int .i32 X)).setCell ⟨E, 1 + H, none⟩ (.int .i32 (i : Int))).drew) := ((hR1.out.setG hF1.out.eg i _).setE _ (by omega) _).drew
  have hRE : R ≠ E := by omega
  have hRg : R ≠ g := by have := hFh.out.g_lt; omega
  have hB2 : Hid (Box ((w1.setCell ⟨g, i, none⟩ (.int .i32 X)).setCell ⟨E, 1 + H, none⟩ (.int .i32 (i : Int))).drew R 0 0) :=
    ((hBR.out.far (p := ⟨g, i, none⟩) hRg _).far (p := ⟨E, 1 + H, none⟩) hRE _).keep rfl
  have HB : Hid (bl l i D X (0, 0) 0 3 = bst l i D) := by
    show _ = _
    unfold bst; rw [if_neg (by omega), hX, hH]
  have hXi : X < i := by rw [hX]; exact last_lt _ _ _
  have hX1 : -1 ≤ X := by rw [hX]; exact last_ge _ _ _
  have hX4 : Hid (0 ≤ X → X.toNat + 4 ≤ l.length) := by
    show 0 ≤ X → _
    rw [hX]; exact fun h => (last_is l H i h).1
  clear hX hH hR cs cs'
  go_wp2_with fail
  go_region
  clear c1' c3' c1 c2 c3 f1 f2
  obtain ⟨w3, hw3⟩ : ∃ w3, w3 = ((w1.setCell ⟨g, i, none⟩ (.int .i32 X)).setCell ⟨E, 1 + H, none⟩ (.int .i32 (i : Int))).drew := ⟨_, rfl⟩
  rw [← hw3] at hin hR2 hB2
  rw [← hw3]
  clear hw3 hF1 hR1 hBR hb1 w1
  have hsub : (i : Int) + d - i = d := by omega
  have hBM : Hid (Box (w3.alloc (.cells #[.int .i32 0, .int .i32 0] 47)) w3.heap.size 0 0) := Box.new w3 0 0 47
  have hB4 : Hid (Box (w3.alloc (.cells #[.int .i32 0, .int .i32 0] 47)) R 0 0) := hB2.out.alloc _
  have hR4 : Hid (Fr E g w (w3.alloc (.cells #[.int .i32 0, .int .i32 0] 47))) := hR2.out.alloc _
  have hF4 : Hid (Fd (w3.alloc (.cells #[.int .i32 0, .int .i32 0] 47)) E b (i + dc) g cg l (i + 1)) := hin.out.alloc _
  have hMR : w3.heap.size ≠ R := by have := hB2.out.lt; omega
  have hMn : Hid (w.heap.size ≤ w3.heap.size) := hR2.out.size
  go_wp2_with fail
  generalize w3.alloc (.cells #[.int .i32 0, .int .i32 0] 47) = w4 at hBM hB4 hR4 hF4 ⊢
  generalize w3.heap.size = M at hBM hMR hMn ⊢
  clear hin hR2 hB2 w3
  have hME : M ≠ E := by have := hMn.out; omega
  have hMg : M ≠ g := by have := hMn.out; have := hFh.out.g_lt; omega
  go_loopw [2, 9, 11, 12] (fun dv jv vv lv wr => ∃ (K : Nat) (J : Int) (m1 m2 : Nat) (V : Int) (len : Nat), dv = .int .i64 (K : Int) ∧ jv = .int .i32 J ∧ vv = .int .i64 V ∧ lv = .int .i64 (len : Int) ∧ K ≤ D ∧ J < i ∧ -1 ≤ J ∧ Hid (0 ≤ J → J.toNat + 4 ≤ l.length) ∧ 3 ≤ len ∧ len < d ∧ m1 ≤ 1048576 ∧ m2 ≤ 1048576 ∧ Hid (bl l i K J (m1, m2) V len = bst l i D) ∧ Hid (Fd wr E b (i + dc) g cg l (i + 1)) ∧ Hid (Fr E g w wr) ∧ Hid (Box wr R 0 0) ∧ Hid (Box wr M (m1 : Int) (m2 : Int))) (fun dv _ _ _ _ => (intOf dv).toNat)
  case atStart => exact ⟨D, X, 0, 0, 0, 3, rfl, rfl, rfl, rfl, Nat.le_refl _, hXi, hX1, hX4, Nat.le_refl _, by omega, by omega, by omega, HB, hF4, hR4, hB4, hBM⟩
  case round =>
    clear hXi hX1 hX4 HB hF4 hR4 hB4 hBM hRE hRg
    obtain ⟨K, J, m1, m2, V, len, rfl, rfl, rfl, rfl, hkD, hJi, hJ1, hJ4, hl3, hld, hm1, hm2, HB, hFr, hRr, hBr, hMr⟩ := hrel
    by_cases hJ0 : J < 0
    · have HE : Hid (bst l i D = (m1, m2)) := by
        show _ = _
        rw [← HB.out, bl_neg _ _ _ _ _ _ _ hJ0]
      have e0 := hMr.out.c0
      have e1 := hMr.out.c1
      have r0 := hBr.out.c0
      have r1 := hBr.out.c1
      have rf0 := hBr.out.f0 0
      have rf1 := hBr.out.f0 1
      have hBs := hBr.out.set (m1 : Int) (m2 : Int)
      have s0 := hBs.c0
      have s1 := hBs.c1
      have hs1 := World.cell?_setCell_other wr ⟨R, 0, none⟩ ⟨R, 1, none⟩ (.int .i32 (m1 : Int)) (by intro e; injection e with _ e2; cases e2)
      rw [r1] at hs1
      clear hBs
      go_wp2
      refine bodyPost_ret (v := .agg #[.int .i32 (m1 : Int), .int .i32 (m2 : Int)]) (by simp [results, Tryd.results14, go_sem, s0, s1]) rfl ?_
      exact ⟨by rw [HE.out], (hFr.out.setPast hFh.out _ hRn.out).setPast hFh.out _ hRn.out, (hRr.out.setNew hRn.out _).setNew hRn.out _⟩
    obtain ⟨j, rfl⟩ : ∃ j : Nat, J = (j : Int) := ⟨J.toNat, by omega⟩
    have hji : j < i := by omega
    have hj4 : j + 4 ≤ l.length := by have := hJ4.out (by omega); rwa [Int.toNat_natCast] at this
    clear hJ0 hJ1 hJ4 hJi
    by_cases hK0 : K = 0
    · subst hK0
      have HE : Hid (bst l i D = (m1, m2)) := HB.out.symm
      have e0 := hMr.out.c0
      have e1 := hMr.out.c1
      have r0 := hBr.out.c0
      have r1 := hBr.out.c1
      have rf0 := hBr.out.f0 0
      have rf1 := hBr.out.f0 1
      have hBs := hBr.out.set (m1 : Int) (m2 : Int)
      have s0 := hBs.c0
      have s1 := hBs.c1
      have hs1 := World.cell?_setCell_other wr ⟨R, 0, none⟩ ⟨R, 1, none⟩ (.int .i32 (m1 : Int)) (by intro e; injection e with _ e2; cases e2)
      rw [r1] at hs1
      clear hBs
      go_wp2
      refine bodyPost_ret (v := .agg #[.int .i32 (m1 : Int), .int .i32 (m2 : Int)]) (by simp [results, Tryd.results14, go_sem, s0, s1]) rfl ?_
      exact ⟨by rw [HE.out], (hFr.out.setPast hFh.out _ hRn.out).setPast hFh.out _ hRn.out, (hRr.out.setNew hRn.out _).setNew hRn.out _⟩
    · obtain ⟨k, hKk⟩ : ∃ k, K = k + 1 := ⟨K - 1, by omega⟩
      have hKs : (K : Int) - 1 = (k : Int) := by omega
      have hkK : k < K := by omega
      have hK1 : 0 < K := by omega
      rw [hKk] at HB
      clear hKk hK0
      obtain ⟨Y, hY⟩ : ∃ Y, Y = nx l j := ⟨_, rfl⟩
      have hYi : Y < j := by rw [hY]; exact nx_lt l j
      have hY1 : -1 ≤ Y := by rw [hY]; exact last_ge _ _ _
      have hY4 : Hid (0 ≤ Y → Y.toNat + 4 ≤ l.length) := by
        show 0 ≤ Y → _
        rw [hY]; exact fun h => (last_is l (hsh l j) j h).1
      have cj := hFr.out.text (j + len) (by omega)
      have ci := hFr.out.text (i + len) (by omega)
      by_cases he : bt l (j + len) = bt l (i + len)
      · have he' : (((bt l (j + len)).toNat : Int) == ((bt l (i + len)).toNat : Int)) = true := by rw [he]; simp
        go_wp2_with fail
        go_quiet (fail)
        obtain ⟨w5, hw5⟩ : ∃ w5, w5 = wr.drewN nq := ⟨_, rfl⟩
        rw [← hw5]
        have hb5 : Below wr.heap.size wr w5 := by rw [hw5]; exact below_drewN (Below.refl _ _) _
        clear hw5 cj ci he'
        obtain ⟨Lm, hLm⟩ : ∃ Lm, Lm = ml l j i d := ⟨_, rfl⟩
        have hLd : Lm ≤ d := by rw [hLm]; exact ml_le _ _ _ _
        have cM : ∀ dr os, Calls Tryd.prog 19 #[.slice (some ⟨b, j, none⟩) (i + d - j) (i + dc - j), .slice (some ⟨b, i, none⟩) d dc, .int .i64 (d : Int)] (grow (redrawn w5 dr) os) fun e w'' => e = .returned (.int .i64 (Lm : Int)) ∧ ∃ p : Regrown, w'' = grow (redrawn w5 p.d) p.os := fun dr os => by
          rw [hLm]
          exact Calls.regrown_of (mlen_at b j i (i + d - j) (i + dc - j) d dc d l _ ((hFr.out.below hb5).text.below (below_regrown w5 dr os)) (tab_below (hFr.out.below hb5).tab (below_regrown w5 dr os)) (by omega) (by omega) (by omega) (by omega) (by omega) (by omega) (by omega))
        go_wp2_with fail
        refine wp_region_quiet_below (by kernel_rfl) (by kernel_rfl) ?_
        repeat (go_big_quiet_step (exact cM _ _))
        refine wpQuiet_nil ?_
        intro _ hw'
        obtain ⟨⟨dq, osq⟩, hw''⟩ := hw'
        subst hw''
        have hb6 : Below wr.heap.size wr (grow (redrawn w5 dq) osq) := hb5.trans ((below_regrown w5 dq osq).mono hb5.size)
        generalize grow (redrawn w5 dq) osq = w6 at hb6 ⊢
        clear hb5 cM w5
        have hF6 : Hid (Fd w6 E b (i + dc) g cg l (i + 1)) := hFr.out.below hb6
        have hR6 : Hid (Fr E g w w6) := hRr.out.below hb6
        have hB6 : Hid (Box w6 R 0 0) := hBr.out.below hb6
        have hM6 : Hid (Box w6 M (m1 : Int) (m2 : Int)) := hMr.out.below hb6
        clear hFr hRr hBr hMr hb6 wr
        obtain ⟨o, ho⟩ : ∃ o, o = i - j := ⟨_, rfl⟩
        have hio : (i : Int) - j = (o : Int) := by omega
        have hos : o ≤ 1048576 := by omega
        have HC : Hid (cand l i j = (Lm, o)) := by
          show _ = _
          rw [ho, hLm]; unfold cand; rw [show l.length - i = d by omega]
        clear hLm ho
        by_cases hL : len < Lm
        · obtain ⟨Vn, hVn⟩ : ∃ Vn, Vn = val (Lm, o) := ⟨_, rfl⟩
          have hF7 : Hid (Fd (w6.alloc (.cells #[.int .i32 (Lm : Int), .int .i32 (o : Int)] 47)) E b (i + dc) g cg l (i + 1)) := hF6.out.alloc _
          have hR7 : Hid (Fr E g w (w6.alloc (.cells #[.int .i32 (Lm : Int), .int .i32 (o : Int)] 47))) := hR6.out.alloc _
          have hB7 : Hid (Box (w6.alloc (.cells #[.int .i32 (Lm : Int), .int .i32 (o : Int)] 47)) R 0 0) := hB6.out.alloc _
          have hM7 : Hid (Box (w6.alloc (.cells #[.int .i32 (Lm : Int), .int .i32 (o : Int)] 47)) M (m1 : Int) (m2 : Int)) := hM6.out.alloc _
          have hT7 : Hid (Box (w6.alloc (.cells #[.int .i32 (Lm : Int), .int .i32 (o : Int)] 47)) w6.heap.size (Lm : Int) (o : Int)) := Box.new w6 _ _ 47
          have hTM : w6.heap.size ≠ M := by have := hM6.out.lt; omega
          go_wp2_with fail
          refine (value_any Lm o (by omega) hos _).mono ?_
          rintro e w8 ⟨rfl, hb8⟩
          rw [← hVn]
          have hF8 : Hid (Fd w8 E b (i + dc) g cg l (i + 1)) := hF7.out.below hb8
          have hR8 : Hid (Fr E g w w8) := hR7.out.below hb8
          have hB8 : Hid (Box w8 R 0 0) := hB7.out.below hb8
          have hM8 : Hid (Box w8 M (m1 : Int) (m2 : Int)) := hM7.out.below hb8
          have hT8 : Hid (Box w8 w6.heap.size (Lm : Int) (o : Int)) := hT7.out.below hb8
          clear hF7 hR7 hB7 hM7 hT7 hb8 hF6 hR6 hB6 hM6
          generalize w6.heap.size = T at hTM hT8 ⊢
          clear w6
          have q0 := hM8.out.c0
          have HV : Hid (Vn = val (Lm, o)) := hVn
          clear hVn
          by_cases htk : m1 = 0 ∨ V < Vn
          · have HT : Hid (tak l i j (m1, m2) V len = true) := by
              show _ = _
              unfold tak; rw [HC.out, ← HV.out]; simp [hL, he]; exact htk
            have t0 := hT8.out.c0
            have t1 := hT8.out.c1
            have q1 := hM8.out.c1
            have qf0 := hM8.out.f0 0
            have qf1 := hM8.out.f0 1
            have hs9 := World.cell?_setCell_other w8 ⟨M, 0, none⟩ ⟨M, 1, none⟩ (.int .i32 (Lm : Int)) (by intro e; injection e with _ e2; cases e2)
            rw [q1] at hs9
            have hF9 : Hid (Fd ((w8.setCell ⟨M, 0, none⟩ (.int .i32 (Lm : Int))).setCell ⟨M, 1, none⟩ (.int .i32 (o : Int))) E b (i + dc) g cg l (i + 1)) := (hF8.out.setPast hFh.out _ hMn.out).setPast hFh.out _ hMn.out
            have hR9 : Hid (Fr E g w ((w8.setCell ⟨M, 0, none⟩ (.int .i32 (Lm : Int))).setCell ⟨M, 1, none⟩ (.int .i32 (o : Int)))) := (hR8.out.setNew hMn.out _).setNew hMn.out _
            have hB9 : Hid (Box ((w8.setCell ⟨M, 0, none⟩ (.int .i32 (Lm : Int))).setCell ⟨M, 1, none⟩ (.int .i32 (o : Int))) R 0 0) := (hB8.out.far (p := ⟨M, 0, none⟩) (Ne.symm hMR) _).far (p := ⟨M, 1, none⟩) (Ne.symm hMR) _
            have hM9 : Hid (Box ((w8.setCell ⟨M, 0, none⟩ (.int .i32 (Lm : Int))).setCell ⟨M, 1, none⟩ (.int .i32 (o : Int))) M (Lm : Int) (o : Int)) := hM8.out.set _ _
            obtain ⟨w9, hw9⟩ : ∃ w9, Hid (w9 = (w8.setCell ⟨M, 0, none⟩ (.int .i32 (Lm : Int))).setCell ⟨M, 1, none⟩ (.int .i32 (o : Int))) := ⟨_, rfl⟩
            rw [← hw9.out] at hF9 hR9 hB9 hM9
            by_cases hfi : 32 ≤ Lm ∨ Lm = d
            · have HFI : Hid (fin l i j = true) := by
                show _ = _
                unfold fin; rw [HC.out, show l.length - i = d by omega]; simpa using hfi
              have HE : Hid (bst l i D = (Lm, o)) := by
                show _ = _
                rw [← HB.out, bl_fin _ _ _ _ _ _ _ HT.out HFI.out, HC.out]
              have hzz : (((m1 : Int) == 0) = true ∧ True) ∨ (((m1 : Int) == 0) = false ∧ V < Vn) := by
                by_cases hm0 : m1 = 0
                · exact .inl ⟨by rw [hm0]; rfl, trivial⟩
                · exact .inr ⟨by simp; omega, by omega⟩
              clear htk
              have hff : (32 ≤ Lm ∧ True) ∨ (¬ 32 ≤ Lm ∧ ((Lm : Int) == (d : Int)) = true) := by
                by_cases h32 : 32 ≤ Lm
                · exact .inl ⟨h32, trivial⟩
                · exact .inr ⟨h32, by simp; omega⟩
              clear hfi
              rcases hzz with ⟨hz, hz2⟩ | ⟨hz, hz2⟩
              all_goals
                go_upto_region 18 with (fail)
                rw [← hw9.out]
                clear t0 t1 q0 q1 qf0 qf1 hs9
                have e0 := hM9.out.c0
                have e1 := hM9.out.c1
                have r0 := hB9.out.c0
                have r1 := hB9.out.c1
                have rf0 := hB9.out.f0 0
                have rf1 := hB9.out.f0 1
                have hBs := hB9.out.set (Lm : Int) (o : Int)
                have s0 := hBs.c0
                have s1 := hBs.c1
                have hs1 := World.cell?_setCell_other w9 ⟨R, 0, none⟩ ⟨R, 1, none⟩ (.int .i32 (Lm : Int)) (by intro e; injection e with _ e2; cases e2)
                rw [r1] at hs1
                clear hBs
                rcases hff with ⟨hf1, hf2⟩ | ⟨hf1, hf2⟩
                all_goals
                  go_wp2
                  refine bodyPost_ret (v := .agg #[.int .i32 (Lm : Int), .int .i32 (o : Int)]) (by simp [results, Tryd.results14, go_sem, s0, s1]) rfl ?_
                  exact ⟨by rw [HE.out], (hF9.out.setPast hFh.out _ hRn.out).setPast hFh.out _ hRn.out, (hR9.out.setNew hRn.out _).setNew hRn.out _⟩
            · have HFI : Hid (fin l i j = false) := by
                show _ = _
                unfold fin; rw [HC.out, show l.length - i = d by omega]; simp; omega
              have HB2 : Hid (bl l i k Y (Lm, o) Vn Lm = bst l i D) := by
                show _ = _
                rw [← HB.out, bl_take _ _ _ _ _ _ _ HT.out HFI.out, hY, HC.out, ← HV.out]
              have hzz : (((m1 : Int) == 0) = true ∧ True) ∨ (((m1 : Int) == 0) = false ∧ V < Vn) := by
                by_cases hm0 : m1 = 0
                · exact .inl ⟨by rw [hm0]; rfl, trivial⟩
                · exact .inr ⟨by simp; omega, by omega⟩
              clear htk
              have hf1 : ¬ 32 ≤ Lm := by omega
              have hf2 : ((Lm : Int) == (d : Int)) = false := by simp; omega
              rcases hzz with ⟨hz, hz2⟩ | ⟨hz, hz2⟩
              all_goals
                go_upto_region 18 with (fail)
                rw [← hw9.out]
                clear t0 t1 q0 q1 qf0 qf1 hs9
                have c2 := hF9.out.prev
                rw [hd] at c2
                have cc : w9.cell? ⟨g, j, none⟩ = some (.int .i32 Y) := by rw [hY]; exact hF9.out.chain j (by omega) hj4
                clear hY
                go_wp2
                go_roundw
                case rel => exact ⟨k, Y, Lm, o, Vn, Lm, rfl, rfl, rfl, rfl, by omega, by omega, hY1, hY4, by omega, by omega, by omega, by omega, HB2, hF9, hR9, hB9, hM9⟩
                case measure => simp [intOf]; omega
          · have HT : Hid (tak l i j (m1, m2) V len = false) := by
              show _ = _
              unfold tak; rw [HC.out, ← HV.out]; simp [hL, he]; omega
            have HB2 : Hid (bl l i k Y (m1, m2) V len = bst l i D) := by
              show _ = _
              rw [← HB.out, bl_skip _ _ _ _ _ _ _ HT.out, hY]
            have hz : ((m1 : Int) == 0) = false := by simp; omega
            have hz2 : ¬ (V < Vn) := by omega
            have c2 := hF8.out.prev
            rw [hd] at c2
            have cc : w8.cell? ⟨g, j, none⟩ = some (.int .i32 Y) := by rw [hY]; exact hF8.out.chain j (by omega) hj4
            clear hY
            go_wp2
            go_roundw
            case rel => exact ⟨k, Y, m1, m2, V, len, rfl, rfl, rfl, rfl, by omega, by omega, hY1, hY4, hl3, hld, hm1, hm2, HB2, hF8, hR8, hB8, hM8⟩
            case measure => simp [intOf]; omega
        · have HT : Hid (tak l i j (m1, m2) V len = false) := by
            show _ = _
            unfold tak; rw [HC.out]; simp [hL]
          have HB2 : Hid (bl l i k Y (m1, m2) V len = bst l i D) := by
            show _ = _
            rw [← HB.out, bl_skip _ _ _ _ _ _ _ HT.out, hY]
          have c2 := hF6.out.prev
          rw [hd] at c2
          have cc : w6.cell? ⟨g, j, none⟩ = some (.int .i32 Y) := by rw [hY]; exact hF6.out.chain j (by omega) hj4
          clear hY
          go_wp2
          go_roundw
          case rel => exact ⟨k, Y, m1, m2, V, len, rfl, rfl, rfl, rfl, by omega, by omega, hY1, hY4, hl3, hld, hm1, hm2, HB2, hF6, hR6, hB6, hM6⟩
          case measure => simp [intOf]; omega
      · have he' : (((bt l (j + len)).toNat : Int) == ((bt l (i + len)).toNat : Int)) = false := by
          simp only [beq_eq_false_iff_ne, ne_eq]
          intro h
          exact he (UInt8.toNat_inj.1 (by omega))
        have HT : Hid (tak l i j (m1, m2) V len = false) := by
          show _ = _
          unfold tak; simp [he]
        have HB2 : Hid (bl l i k Y (m1, m2) V len = bst l i D) := by
          show _ = _
          rw [← HB.out, bl_skip _ _ _ _ _ _ _ HT.out, hY]
        go_wp2_with fail
        go_quiet (fail)
        obtain ⟨w5, hw5⟩ : ∃ w5, w5 = wr.drewN nq := ⟨_, rfl⟩
        rw [← hw5]
        have hb5 : Below wr.heap.size wr w5 := by rw [hw5]; exact below_drewN (Below.refl _ _) _
        clear hw5 cj ci he'
        have hF6 : Hid (Fd w5 E b (i + dc) g cg l (i + 1)) := hFr.out.below hb5
        have hR6 : Hid (Fr E g w w5) := hRr.out.below hb5
        have hB6 : Hid (Box w5 R 0 0) := hBr.out.below hb5
        have hM6 : Hid (Box w5 M (m1 : Int) (m2 : Int)) := hMr.out.below hb5
        clear hFr hRr hBr hMr hb5 wr
        have c2 := hF6.out.prev
        rw [hd] at c2
        have cc : w5.cell? ⟨g, j, none⟩ = some (.int .i32 Y) := by rw [hY]; exact hF6.out.chain j (by omega) hj4
        clear hY
        go_wp2
        go_roundw
        case rel => exact ⟨k, Y, m1, m2, V, len, rfl, rfl, rfl, rfl, by omega, by omega, hY1, hY4, hl3, hld, hm1, hm2, HB2, hF6, hR6, hB6, hM6⟩
        case measure => simp [intOf]; omega

end Go.Proofs.Qxb6625871aDoor
