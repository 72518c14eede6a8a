import Derived.Test.Qxb6625871aDoorPush
/-! The walk of parse. -/
namespace Go.Proofs.Qxb6625871aDoor
open Go.RowKit Go.Sort

theorem best_for (E b cb g cg : Nat) (l : List UInt8) (i D : Nat) (iv Dv : Int) (w : World) (hF : Fd w E b cb g cg l i) (hi : i ≤ l.length) (hD : D ≤ 1000) (hiv : iv = (i : Int)) (hDv : Dv = (D : Int)) :
    Calls Tryd.prog 14 #[.pointer (some ⟨E, 0, none⟩), .int .i64 iv, .int .i64 Dv] w
      fun e w' => e = .returned (.agg #[.int .i32 ((bst l i D).1 : Int), .int .i32 ((bst l i D).2 : Int)]) ∧ Fd w' E b cb g cg l (i + 1) ∧ Fr E g w w' := by
  subst hiv hDv
  exact best_at E b cb g cg l i D w hF hi hD

theorem insert_for (E b cb g cg : Nat) (l : List UInt8) (p to : Nat) (pv tv : Int) (w : World) (hF : Fd w E b cb g cg l p) (hpt : p ≤ to) (hto : to ≤ l.length) (h4 : 4 ≤ l.length) (hpv : pv = (p : Int)) (htv : tv = (to : Int)) :
    Calls Tryd.prog 17 #[.pointer (some ⟨E, 0, none⟩), .int .i64 pv, .int .i64 tv] w fun e w' => e = .returned (.tuple #[]) ∧ Fd w' E b cb g cg l to ∧ Fr E g w w' := by
  subst hpv htv
  exact insert_at E b cb g cg l p to w hF hpt hto h4

theorem prs_end (l : List UInt8) (f i : Nat) (m : Nat × Nat) (h : l.length ≤ i) : prs l f i m = [] := by
  cases f with
  | zero => rfl
  | succ f => unfold prs; rw [if_pos h]
theorem prs_lit (l : List UInt8) (f i : Nat) (m : Nat × Nat) (h : i < l.length) (hw : wor m = false) : prs l (f + 1) i m = (1, 0) :: prs l f (i + 1) (bst l (i + 1) 8) := by
  conv => lhs; unfold prs
  rw [if_neg (by omega), if_pos hw]
theorem prs_lazy (l : List UInt8) (f i : Nat) (m : Nat × Nat) (h : i < l.length) (hw : wor m = true) (hz : lazy l i m = true) : prs l (f + 1) i m = (1, 0) :: prs l f (i + 1) (bst l (i + 1) 4) := by
  conv => lhs; unfold prs
  rw [if_neg (by omega), if_neg (by rw [hw]; decide), if_pos hz]
theorem prs_take (l : List UInt8) (f i : Nat) (m : Nat × Nat) (h : i < l.length) (hw : wor m = true) (hz : lazy l i m = false) : prs l (f + 1) i m = m :: prs l f (i + m.1) (bst l (i + m.1) 8) := by
  conv => lhs; unfold prs
  rw [if_neg (by omega), if_neg (by rw [hw]; decide), if_neg (by rw [hz]; decide)]

theorem good_le {l : List UInt8} {i : Nat} {m : Nat × Nat} (h : Good l i m) : m.1 ≤ l.length - i ∧ m.2 ≤ i := by
  rcases h with rfl | h
  · exact ⟨Nat.zero_le _, Nat.zero_le _⟩
  · exact ⟨h.2.2.2.1, h.2.2.1⟩

/-- The finder behind reset. -/
theorem fd_of_rst {w w' : World} {B E b cb : Nat} {pv : Value} {l : List UInt8} (h : Rst w w' B E (.slice (some ⟨b, 0, none⟩) l.length cb) pv l.length) (hI : Idle w B E) (hs : Src w b l) (hT : TabAt 1 Lib.deBruijn64tab w) (hb : b < B) (h1 : 1 < B) (hn : 0 < l.length) (hlb : l.length ≤ cb) (hsm : l.length ≤ 1048576) :
    ∃ g cg, pv = .slice (some ⟨g, 0, none⟩) l.length cg ∧ B ≤ g ∧ cg ≤ maxLen ∧ Fd w' E b cb g cg l 0 := by
  rcases h.row.2 with ⟨_, h0⟩ | ⟨g, cg, cur, rfl, hbg, hg, hnc, hcm, hcs, htake⟩
  · omega
  have hcs' : cur.size = cg := by omega
  refine ⟨g, cg, rfl, hbg, hcm, ⟨h.src, fun k hk => by rw [h.head k hk]; rfl, h.prev, ⟨cur, hg, hcs'⟩, fun j hj => ?_, fun j hj => by omega, h.mold.frozen, ?_, fun i hi => ?_, fun i hi => ?_, ?_, h.mold.ne hg (by decide), by omega, ?_, by omega, hlb, hnc, hn, hsm⟩⟩
  · have := h.row.cells (g := g) rfl j (.int .i32 0) (by simp [hj])
    rw [Addr.add_lit] at this
    simp at this
    exact ⟨0, this⟩
  · intro o; simp [World.frozen?, hg]
  · rw [h.below.cell (p := ⟨b, i, none⟩) hb]; exact hs i hi
  · rw [h.below.cell (p := ⟨1, i, none⟩) h1]; exact hT i hi
  · have := hI.eB; omega
  · have := hI.eB; omega

theorem Ps.idle {w wr : World} {B E b cb g cg M : Nat} {l : List UInt8} {p : Nat} {acc : List (Nat × Nat)} (h : Ps w wr B E b cb g cg M l p acc) (hcm : cg ≤ maxLen) : Idle wr B E := by
  obtain ⟨cur, hg, hc⟩ := h.fd.shape
  obtain ⟨sv, c1, ho, _⟩ := h.steps
  refine ⟨h.mold, ⟨_, _, _, h.fd.src⟩, fun k hk => ⟨_, h.fd.head k hk⟩, ⟨_, l.length, cur.toList.take l.length, h.fd.prev, ?_, .inr ⟨g, cg, cur, rfl, h.gB, hg, h.fd.lg, hcm, by omega, by simp⟩⟩, ⟨sv, _, _, c1, ho⟩, h.eB⟩
  simp
  have := h.fd.lg
  omega

/-- The parse's state behind reset and 'steps = steps[:0]'. -/
theorem ps_start {w w1 : World} {B E b cb g cg : Nat} {l : List UInt8} {sv pv X : Value} (hI : Idle w B E) (hR : Rst w w1 B E sv pv l.length) (hF : Fd w1 E b cb g cg l 0) (hg : B ≤ g) (hb : b < B) (h1 : 1 < B) (hB : B ≤ w.heap.size) (hX : w1.ownsRow B 47 2 X 0 []) (M : Nat) (hM : w1.heap.size ≤ M) :
    Ps w (w1.setCell ⟨E, 8212, none⟩ X) B E b cb g cg M l 0 [] := by
  obtain ⟨v, hv⟩ := hR.mold.cell (o := 8212) (by omega)
  refine ⟨hF.setFar 8212 (by omega) _, hR.mold.set _ _, ⟨X, World.cell?_setCell_same (u := v) _ _ _ hv, own_keep hX (fun k hk => Below.heap_setCell w1 ⟨E, 8212, none⟩ _ k (fun e => ?_)), fun k hk => ?_⟩, hR.below.setCell (p := ⟨E, 8212, none⟩) hI.eB _, hI.eB, hg, hb, h1, hB⟩
  · obtain ⟨_, cur, hc⟩ := own_type hX hk
    exact hR.mold.ne hc (by decide) e.symm
  · have := hX.lt k hk; omega

set_option maxHeartbeats 4000000 in
set_option maxRecDepth 100000 in
theorem parse_at (w : World) (B E b cb : Nat) (l : List UInt8) (hI : Idle w B E) (hB : B ≤ w.heap.size) (hb : b < B) (h1B : 1 < B) (hs : Src w b l) (hT : TabAt 1 Lib.deBruijn64tab w) (hn : 0 < l.length) (hlb : l.length ≤ cb) (hsm : l.length ≤ 1048576) :
    Calls Tryd.prog 11 #[.pointer (some ⟨E, 0, none⟩), .slice (some ⟨b, 0, none⟩) l.length cb] w
      fun e w' => e = .returned (.tuple #[]) ∧ Idle w' B E ∧ (∃ sv, w'.cell? ⟨E, 8212, none⟩ = some sv ∧ w'.ownsRow B 47 2 sv (steps l).length (flat (steps l))) ∧ Below B w w' := by
  have hIh : Hid (Idle w B E) := hI
  have hsh : Hid (Src w b l) := hs
  have hTh : Hid (TabAt 1 Lib.deBruijn64tab w) := hT
  clear hI hs hT
  go_enter Tryd.func11, Tryd.ntmps11
  go_wp2_with fail
  refine (reset_at w B E _ _ _ hIh.out hB hsm).mono ?_
  rintro e w1 ⟨rfl, pv, hR1'⟩
  have hR1 : Hid (Rst w w1 B E (.slice (some ⟨b, 0, none⟩) l.length cb) pv l.length) := hR1'
  obtain ⟨g, cg, rfl, hgB, hcm', hF1'⟩ := fd_of_rst hR1' hIh.out hsh.out hTh.out hb h1B hn hlb hsm
  have hF1 : Hid (Fd w1 E b cb g cg l 0) := hF1'
  have hcm : Hid (cg ≤ maxLen) := hcm'
  clear hR1' hF1' hcm'
  obtain ⟨sv, sn, ys, cs', hst'⟩ := hIh.out.steps
  have cs : w1.cell? ⟨E, 8212, none⟩ = some sv := by rw [hR1.out.far 8212 (by omega)]; exact cs'
  have hst : w1.ownsRow B 47 2 sv sn ys := own_keep hst' (fun k hk => by obtain ⟨_, cur, hc⟩ := own_type hst' hk; exact hR1.out.keep k cur hc)
  have fz := hR1.out.mold.frozen 8212
  clear cs' hst'
  rcases own_head hst with ⟨rfl, hown0⟩ | ⟨s0, cap, rfl, hnc, hown0⟩
  · clear hst
    have hP2 : ∀ M, w1.heap.size ≤ M → Ps w (w1.setCell ⟨E, 8212, none⟩ (.slice none 0 0)) B E b cb g cg M l 0 [] := fun M hM => ps_start hIh.out hR1.out hF1.out hgB hb h1B hB hown0 M hM
    have hPh : Hid (∀ M, w1.heap.size ≤ M → Ps w (w1.setCell ⟨E, 8212, none⟩ (.slice none 0 0)) B E b cb g cg M l 0 []) := hP2
    clear hP2 hown0
    go_wp2_with fail
    refine (best_for E b cb g cg l 0 8 _ _ _ (hPh.out w1.heap.size (Nat.le_refl _)).fd (by omega) (by omega) rfl rfl).mono ?_
    rintro e w3 ⟨rfl, hF3, hR3⟩
    obtain ⟨m1, hm1⟩ : ∃ m1, m1 = (bst l 0 8).1 := ⟨_, rfl⟩
    obtain ⟨m2, hm2⟩ : ∃ m2, m2 = (bst l 0 8).2 := ⟨_, rfl⟩
    have hbs : Hid (bst l 0 8 = (m1, m2)) := by
      show _ = _
      rw [hm1, hm2]
    have hgd : Hid (Good l 0 (m1, m2)) := by
      rw [← hbs.out]; exact bst_good _ _ _
    rw [← hm1, ← hm2]
    clear hm1 hm2
    have hP3 : Hid (Ps w w3 B E b cb g cg w3.heap.size l 1 []) := (hPh.out w3.heap.size (by have := hR3.size; simpa [World.setCell] using this)).fr hF3 hR3
    clear hF3 hR3 hPh
    have hP4 : Hid (Ps w (w3.alloc (.cells #[.int .i32 (m1 : Int), .int .i32 (m2 : Int)] 47)) B E b cb g cg w3.heap.size l 1 []) := hP3.out.step ((Below.refl _ _).alloc (Nat.le_refl _) _)
    have hX4 : Hid (Box (w3.alloc (.cells #[.int .i32 (m1 : Int), .int .i32 (m2 : Int)] 47)) w3.heap.size (m1 : Int) (m2 : Int)) := Box.new w3 _ _ 47
    have hME : w3.heap.size ≠ E := by have := hP3.out.fd.E_lt; omega
    have hMg : w3.heap.size ≠ g := by have := hP3.out.fd.g_lt; omega
    have hMB : B ≤ w3.heap.size := by have := hP3.out.below.size; omega
    clear hP3
    go_wp2_with fail
    generalize w3.alloc (.cells #[.int .i32 (m1 : Int), .int .i32 (m2 : Int)] 47) = w4 at hP4 hX4 ⊢
    generalize w3.heap.size = M at hP4 hX4 hME hMg hMB ⊢
    clear w3
    go_loopw [5] (fun iv wr => ∃ (i m1 m2 : Nat) (acc : List (Nat × Nat)) (f : Nat), iv = .int .i64 (i : Int) ∧ i ≤ l.length ∧ Hid (Good l i (m1, m2)) ∧ l.length - i < f ∧ Hid (acc ++ prs l f i (m1, m2) = steps l) ∧ acc.length ≤ i ∧ Hid (Ps w wr B E b cb g cg M l (i + 1) acc) ∧ Hid (Box wr M (m1 : Int) (m2 : Int))) (fun iv _ => l.length - (intOf iv).toNat)
    case atStart => exact ⟨0, m1, m2, [], l.length + 1, rfl, Nat.zero_le _, hgd, by omega, by show _ = _; rw [← hbs.out]; rfl, Nat.zero_le _, hP4, hX4⟩
    case round =>
      clear hgd hbs hP4 hX4 w4
      obtain ⟨i, m1, m2, acc, f, rfl, hil, hgd, hf, HQ, hacc, hPr, hXr⟩ := hrel
      by_cases hlt : i < l.length
      · obtain ⟨hg1, hg2⟩ := good_le hgd.out
        have hm1 : m1 ≤ 1048576 := by simp only at hg1; omega
        have hm2 : m2 ≤ 1048576 := by simp only at hg2; omega
        simp only at hg1 hg2
        obtain ⟨f, rfl⟩ : ∃ f', f = f' + 1 := ⟨f - 1, by omega⟩
        have x0 := hXr.out.c0
        have x1 := hXr.out.c1
        go_wp2_with fail
        refine (worth_any m1 m2 hm1 hm2 _).mono ?_
        rintro e w5 ⟨rfl, hb5⟩
        have hP5 : Hid (Ps w w5 B E b cb g cg M l (i + 1) acc) := hPr.out.step hb5
        have hX5 : Hid (Box w5 M (m1 : Int) (m2 : Int)) := hXr.out.below hb5
        clear hPr hXr x0 x1 hb5 wr
        by_cases hw : wor (m1, m2) = false
        · rw [hw]
          obtain ⟨q, s, c, q', c', w2, cS, hr, cS2, fS2, hP6', hBx⟩ := hP5.out.push (by omega) hX5.out.lt 1 0
          have hP6 : Hid (Ps w (w2.setCell ⟨E, 8212, none⟩ (.slice q' (acc.length + 1) c')) B E b cb g cg M l (i + 1) (acc ++ [(1, 0)])) := hP6'
          have hX6 : Hid (Box (w2.setCell ⟨E, 8212, none⟩ (.slice q' (acc.length + 1) c')) M (m1 : Int) (m2 : Int)) := hBx M _ _ hX5.out hME hP5.out.apart
          clear hP6' hBx
          have Heq : Hid ((acc ++ [(1, 0)]) ++ prs l f (i + 1) (bst l (i + 1) 8) = steps l) := by
            show _ = _
            rw [← HQ.out, prs_lit l f i _ hlt hw]; simp
          go_wp2_with (at_builtin; refine Lib.wpList_append_run _ rfl _ _ _ _ rfl _ _ rfl rfl _ _ hr ?_)
          go_wp2_with fail
          refine (best_for E b cb g cg l (i + 1) 8 _ _ _ hP6.out.fd (by omega) (by omega) (by go_num) rfl).mono ?_
          rintro e w7 ⟨rfl, hF7, hR7⟩
          obtain ⟨a1, ha1⟩ : ∃ a1, a1 = (bst l (i + 1) 8).1 := ⟨_, rfl⟩
          obtain ⟨a2, ha2⟩ : ∃ a2, a2 = (bst l (i + 1) 8).2 := ⟨_, rfl⟩
          have hbs : Hid (bst l (i + 1) 8 = (a1, a2)) := by
            show _ = _
            rw [ha1, ha2]
          have hgd : Hid (Good l (i + 1) (a1, a2)) := by
            rw [← hbs.out]; exact bst_good _ _ _
          rw [← ha1, ← ha2]
          clear ha1 ha2
          have hP7 : Hid (Ps w w7 B E b cb g cg M l (i + 1 + 1) (acc ++ [(1, 0)])) := hP6.out.fr hF7 hR7
          have hX7 : Hid (Box w7 M _ _) := hX6.out.fr hR7 hME hMg
          clear hF7 hR7
          have y0 := hX7.out.c0
          have y1 := hX7.out.c1
          have yf0 := hX7.out.f0 0
          have yf1 := hX7.out.f0 1
          have ys := World.cell?_setCell_other w7 ⟨M, 0, none⟩ ⟨M, 1, none⟩ (.int .i32 (a1 : Int)) (by intro e; injection e with _ e2; cases e2)
          rw [y1] at ys
          have hP8 : Hid (Ps w ((w7.setCell ⟨M, 0, none⟩ (.int .i32 (a1 : Int))).setCell ⟨M, 1, none⟩ (.int .i32 (a2 : Int))) B E b cb g cg M l (i + 1 + 1) (acc ++ [(1, 0)])) := (hP7.out.box hMB hME hMg 0 _).box hMB hME hMg 1 _
          have hX8 : Hid (Box ((w7.setCell ⟨M, 0, none⟩ (.int .i32 (a1 : Int))).setCell ⟨M, 1, none⟩ (.int .i32 (a2 : Int))) M (a1 : Int) (a2 : Int)) := hX7.out.set _ _
          rw [hbs.out] at Heq
          clear cS cS2 fS2 hr
          go_wp2
          go_roundw
          case rel => exact ⟨i + 1, a1, a2, acc ++ [(1, 0)], f, by go_num, by omega, hgd, by omega, Heq, by simp; omega, hP8, hX8⟩
          case measure => simp [intOf]; omega
        · have hw' : wor (m1, m2) = true := by simpa using hw
          rw [hw']
          have h4 : 4 ≤ m1 := wor_four hw'
          have x0 := hX5.out.c0
          by_cases h32 : m1 < 32
          · go_wp2_with fail
            refine (best_for E b cb g cg l (i + 1) 4 _ _ _ hP5.out.fd (by omega) (by omega) (by omega) rfl).mono ?_
            rintro e w6 ⟨rfl, hF6, hR6⟩
            obtain ⟨n1, hn1⟩ : ∃ n1, n1 = (bst l (i + 1) 4).1 := ⟨_, rfl⟩
            obtain ⟨n2, hn2⟩ : ∃ n2, n2 = (bst l (i + 1) 4).2 := ⟨_, rfl⟩
            have hbn : Hid (bst l (i + 1) 4 = (n1, n2)) := by
              show _ = _
              rw [hn1, hn2]
            have hgn : Hid (Good l (i + 1) (n1, n2)) := by
              rw [← hbn.out]; exact bst_good _ _ _
            rw [← hn1, ← hn2]
            clear hn1 hn2
            obtain ⟨hn1, hn2⟩ := good_le hgn.out
            simp only at hn1 hn2
            have hP6 : Hid (Ps w w6 B E b cb g cg M l (i + 1 + 1) acc) := hP5.out.fr hF6 hR6
            have hX6 : Hid (Box w6 M (m1 : Int) (m2 : Int)) := hX5.out.fr hR6 hME hMg
            have hQ6 : Hid (Ps w w6 B E b cb g cg w6.heap.size l (i + 1 + 1) acc) := hP6.out.fresh _ (Nat.le_refl _)
            have hP7 : Hid (Ps w (w6.alloc (.cells #[.int .i32 (n1 : Int), .int .i32 (n2 : Int)] 47)) B E b cb g cg M l (i + 1 + 1) acc) := hP6.out.step ((Below.refl _ _).alloc (Nat.le_refl _) _)
            have hQ7 : Hid (Ps w (w6.alloc (.cells #[.int .i32 (n1 : Int), .int .i32 (n2 : Int)] 47)) B E b cb g cg w6.heap.size l (i + 1 + 1) acc) := hQ6.out.step ((Below.refl _ _).alloc (Nat.le_refl _) _)
            have hX7 : Hid (Box (w6.alloc (.cells #[.int .i32 (n1 : Int), .int .i32 (n2 : Int)] 47)) M (m1 : Int) (m2 : Int)) := hX6.out.alloc _
            have hN7 : Hid (Box (w6.alloc (.cells #[.int .i32 (n1 : Int), .int .i32 (n2 : Int)] 47)) w6.heap.size (n1 : Int) (n2 : Int)) := Box.new w6 _ _ 47
            have hNM : w6.heap.size ≠ M := by have := hX6.out.lt; omega
            have hNE : w6.heap.size ≠ E := by have := hP6.out.fd.E_lt; omega
            clear hP6 hX6 hQ6 hF6 hR6 hP5 hX5 x0
            go_wp2_with fail
            generalize w6.alloc (.cells #[.int .i32 (n1 : Int), .int .i32 (n2 : Int)] 47) = w7 at hP7 hQ7 hX7 hN7 ⊢
            generalize w6.heap.size = N at hQ7 hN7 hNM hNE ⊢
            clear w6
            have k0 := cell_regrown hN7.out.c0
            have k1 := cell_regrown hN7.out.c1
            have k2 := cell_regrown hX7.out.c0
            have k3 := cell_regrown hX7.out.c1
            obtain ⟨vn, hvn⟩ : ∃ vn, Hid (vn = val (n1, n2)) := ⟨_, rfl⟩
            obtain ⟨vm, hvm⟩ : ∃ vm, Hid (vm = val (m1, m2)) := ⟨_, rfl⟩
            have cW : ∀ dr os, Calls Tryd.prog 15 #[.agg #[.int .i32 (n1 : Int), .int .i32 (n2 : Int)]] (grow (redrawn w7 dr) os) fun e w'' => e = .returned (.bool (wor (n1, n2))) ∧ ∃ p : Regrown, w'' = grow (redrawn w7 p.d) p.os := fun dr os => Calls.regrown_of (worth_any n1 n2 (by omega) (by omega) _)
            have cV1 : ∀ dr os, Calls Tryd.prog 16 #[.agg #[.int .i32 (n1 : Int), .int .i32 (n2 : Int)]] (grow (redrawn w7 dr) os) fun e w'' => e = .returned (.int .i64 vn) ∧ ∃ p : Regrown, w'' = grow (redrawn w7 p.d) p.os := fun dr os => by rw [hvn.out]; exact Calls.regrown_of (value_any n1 n2 (by omega) (by omega) _)
            have cV2 : ∀ dr os, Calls Tryd.prog 16 #[.agg #[.int .i32 (m1 : Int), .int .i32 (m2 : Int)]] (grow (redrawn w7 dr) os) fun e w'' => e = .returned (.int .i64 vm) ∧ ∃ p : Regrown, w'' = grow (redrawn w7 p.d) p.os := fun dr os => by rw [hvm.out]; exact Calls.regrown_of (value_any m1 m2 (by omega) (by omega) _)
            by_cases hwn : wor (n1, n2) = true
            · rw [hwn] at cW
              by_cases hv : vm < vn
              · refine wp_region_quiet_below (by kernel_rfl) (by kernel_rfl) ?_
                iterate 2 (go_big_quiet_step (exact cW _ _))
                iterate 3 (go_big_quiet_step (exact cV1 _ _))
                repeat (go_big_quiet_step (exact cV2 _ _))
                refine wpQuiet_nil ?_
                intro _ hwq
                obtain ⟨⟨dq, osq⟩, hwq'⟩ := hwq
                subst hwq'
                have hb8 : Below w7.heap.size w7 (grow (redrawn w7 dq) osq) := below_regrown w7 dq osq
                generalize grow (redrawn w7 dq) osq = w8 at hb8 ⊢
                have hP8 : Hid (Ps w w8 B E b cb g cg M l (i + 1 + 1) acc) := hP7.out.step hb8
                have hQ8 : Hid (Ps w w8 B E b cb g cg N l (i + 1 + 1) acc) := hQ7.out.step hb8
                have hX8 : Hid (Box w8 M (m1 : Int) (m2 : Int)) := hX7.out.below hb8
                have hN8 : Hid (Box w8 N (n1 : Int) (n2 : Int)) := hN7.out.below hb8
                clear hP7 hQ7 hX7 hN7 hb8 k0 k1 k2 k3 cW cV1 cV2 w7
                have hlz : lazy l i (m1, m2) = true := by
                  unfold lazy; rw [hbn.out, hwn, ← hvn.out, ← hvm.out]; simp [h32, hv]
                have j0 := hN8.out.c0
                have j1 := hN8.out.c1
                obtain ⟨q, s, c, q', c', w2, cS, hr, cS2, fS2, hP6', hBx⟩ := hP8.out.push (by omega) hX8.out.lt 1 0
                have hP6 : Hid (Ps w (w2.setCell ⟨E, 8212, none⟩ (.slice q' (acc.length + 1) c')) B E b cb g cg M l (i + 1 + 1) (acc ++ [(1, 0)])) := hP6'
                have hX6 : Hid (Box (w2.setCell ⟨E, 8212, none⟩ (.slice q' (acc.length + 1) c')) M (m1 : Int) (m2 : Int)) := hBx M _ _ hX8.out hME hP8.out.apart
                have hN6 : Hid (Box (w2.setCell ⟨E, 8212, none⟩ (.slice q' (acc.length + 1) c')) N (n1 : Int) (n2 : Int)) := hBx N _ _ hN8.out hNE hQ8.out.apart
                clear hP6' hBx
                have Heq : Hid ((acc ++ [(1, 0)]) ++ prs l f (i + 1) (n1, n2) = steps l) := by
                  show _ = _
                  rw [← HQ.out, prs_lazy l f i _ hlt hw' hlz, hbn.out]; simp
                go_wp2_with (at_builtin; refine Lib.wpList_append_run _ rfl _ _ _ _ rfl _ _ rfl rfl _ _ hr ?_)
                go_wp2_with fail
                clear cS cS2 fS2 hr j0 j1
                generalize w2.setCell ⟨E, 8212, none⟩ (.slice q' (acc.length + 1) c') = w9 at hP6 hX6 hN6 ⊢
                have j0 := hN6.out.c0
                have j1 := hN6.out.c1
                have y0 := hX6.out.c0
                have y1 := hX6.out.c1
                have yf0 := hX6.out.f0 0
                have yf1 := hX6.out.f0 1
                have ys := World.cell?_setCell_other w9 ⟨M, 0, none⟩ ⟨M, 1, none⟩ (.int .i32 (n1 : Int)) (by intro e; injection e with _ e2; cases e2)
                rw [y1] at ys
                have jj0 : ∀ v, (w9.setCell ⟨M, 0, none⟩ v).cell? ⟨N, 0, none⟩ = some (.int .i32 (n1 : Int)) := fun v => (hN6.out.far (p := ⟨M, 0, none⟩) hNM v).c0
                have jj1 : ∀ v, (w9.setCell ⟨M, 0, none⟩ v).cell? ⟨N, 1, none⟩ = some (.int .i32 (n2 : Int)) := fun v => (hN6.out.far (p := ⟨M, 0, none⟩) hNM v).c1
                have hP10 : Hid (Ps w ((w9.setCell ⟨M, 0, none⟩ (.int .i32 (n1 : Int))).setCell ⟨M, 1, none⟩ (.int .i32 (n2 : Int))).drew B E b cb g cg M l (i + 1 + 1) (acc ++ [(1, 0)])) := ((hP6.out.box hMB hME hMg 0 _).box hMB hME hMg 1 _).step ((Below.refl _ _).drew)
                have hX10 : Hid (Box ((w9.setCell ⟨M, 0, none⟩ (.int .i32 (n1 : Int))).setCell ⟨M, 1, none⟩ (.int .i32 (n2 : Int))).drew M (n1 : Int) (n2 : Int)) := (hX6.out.set _ _).below ((Below.refl _ _).drew)
                go_region
                all_goals
                  go_wp2
                  go_roundw
                  case rel => exact ⟨i + 1, n1, n2, acc ++ [(1, 0)], f, by go_num, by omega, hgn, by omega, Heq, by simp; omega, hP10, hX10⟩
                  case measure => simp [intOf]; omega
              · refine wp_region_quiet_below (by kernel_rfl) (by kernel_rfl) ?_
                iterate 2 (go_big_quiet_step (exact cW _ _))
                iterate 3 (go_big_quiet_step (exact cV1 _ _))
                repeat (go_big_quiet_step (exact cV2 _ _))
                refine wpQuiet_nil ?_
                intro _ hwq
                obtain ⟨⟨dq, osq⟩, hwq'⟩ := hwq
                subst hwq'
                have hb8 : Below w7.heap.size w7 (grow (redrawn w7 dq) osq) := below_regrown w7 dq osq
                generalize grow (redrawn w7 dq) osq = w8 at hb8 ⊢
                have hP8 : Hid (Ps w w8 B E b cb g cg M l (i + 1 + 1) acc) := hP7.out.step hb8
                have hQ8 : Hid (Ps w w8 B E b cb g cg N l (i + 1 + 1) acc) := hQ7.out.step hb8
                have hX8 : Hid (Box w8 M (m1 : Int) (m2 : Int)) := hX7.out.below hb8
                have hN8 : Hid (Box w8 N (n1 : Int) (n2 : Int)) := hN7.out.below hb8
                clear hP7 hQ7 hX7 hN7 hb8 k0 k1 k2 k3 cW cV1 cV2 w7
                have hlz : lazy l i (m1, m2) = false := by
                  unfold lazy; rw [hbn.out, hwn, ← hvn.out, ← hvm.out]; simp [hv]
                have v0 := hX8.out.c0
                go_wp2_with fail
                refine (insert_for E b cb g cg l (i + 1 + 1) (i + m1) _ _ _ hP8.out.fd (by omega) (by omega) (by omega) (by omega) (by omega)).mono ?_
                rintro e w9 ⟨rfl, hF9, hR9⟩
                have hP9 : Hid (Ps w w9 B E b cb g cg M l (i + m1) acc) := hP8.out.fr hF9 hR9
                have hX9 : Hid (Box w9 M (m1 : Int) (m2 : Int)) := hX8.out.fr hR9 hME hMg
                clear hF9 hR9 hP8 hX8 v0
                have hPd : Hid (Ps w w9.drew B E b cb g cg M l (i + m1) acc) := hP9.out.step ((Below.refl _ _).drew)
                have hXd : Hid (Box w9.drew M (m1 : Int) (m2 : Int)) := hX9.out.below ((Below.refl _ _).drew)
                have z0 := hX9.out.c0
                have z1 := hX9.out.c1
                obtain ⟨q, s, c, q', c', w2, cS, hr, cS2, fS2, hP6', hBx⟩ := hPd.out.push (by omega) hXd.out.lt m1 m2
                have hP6 : Hid (Ps w (w2.setCell ⟨E, 8212, none⟩ (.slice q' (acc.length + 1) c')) B E b cb g cg M l (i + m1) (acc ++ [(m1, m2)])) := hP6'
                have hX6 : Hid (Box (w2.setCell ⟨E, 8212, none⟩ (.slice q' (acc.length + 1) c')) M (m1 : Int) (m2 : Int)) := hBx M _ _ hXd.out hME hPd.out.apart
                clear hP6' hBx
                have cS9 : w9.cell? ⟨E, 8212, none⟩ = some (.slice q s c) := cS
                have cA9 := cellNew (.cells #[.int .i32 (m1 : Int), .int .i32 (m2 : Int)] 47) cS9
                have u0 := hX6.out.c0
                have Heq : Hid ((acc ++ [(m1, m2)]) ++ prs l f (i + m1) (bst l (i + m1) 8) = steps l) := by
                  show _ = _
                  rw [← HQ.out, prs_take l f i _ hlt hw' hlz]; simp
                clear cS
                go_wp2_with fail
                go_region_law (refine step_append_run rfl (.tmp 97) (.tmp 99) 39 39 rfl _ _ (by simp [Act.eval]) (by simp [Act.eval]) _ _ hr ?_)
                all_goals
                  clear cS9 cA9 hr cS2 fS2 z0 z1
                  go_wp2_with fail
                  refine (best_for E b cb g cg l (i + m1) 8 _ _ _ hP6.out.fd (by omega) (by omega) (by omega) rfl).mono ?_
                  rintro e w7 ⟨rfl, hF7, hR7⟩
                  obtain ⟨a1, ha1⟩ : ∃ a1, a1 = (bst l (i + m1) 8).1 := ⟨_, rfl⟩
                  obtain ⟨a2, ha2⟩ : ∃ a2, a2 = (bst l (i + m1) 8).2 := ⟨_, rfl⟩
                  have hbs : Hid (bst l (i + m1) 8 = (a1, a2)) := by
                    show _ = _
                    rw [ha1, ha2]
                  have hgd : Hid (Good l (i + m1) (a1, a2)) := by
                    rw [← hbs.out]; exact bst_good _ _ _
                  rw [← ha1, ← ha2]
                  clear ha1 ha2
                  have hP7 : Hid (Ps w w7 B E b cb g cg M l (i + m1 + 1) (acc ++ [(m1, m2)])) := hP6.out.fr hF7 hR7
                  have hX7 : Hid (Box w7 M _ _) := hX6.out.fr hR7 hME hMg
                  clear hF7 hR7
                  have y0 := hX7.out.c0
                  have y1 := hX7.out.c1
                  have yf0 := hX7.out.f0 0
                  have yf1 := hX7.out.f0 1
                  have ys := World.cell?_setCell_other w7 ⟨M, 0, none⟩ ⟨M, 1, none⟩ (.int .i32 (a1 : Int)) (by intro e; injection e with _ e2; cases e2)
                  rw [y1] at ys
                  have hP8 : Hid (Ps w ((w7.setCell ⟨M, 0, none⟩ (.int .i32 (a1 : Int))).setCell ⟨M, 1, none⟩ (.int .i32 (a2 : Int))) B E b cb g cg M l (i + m1 + 1) (acc ++ [(m1, m2)])) := (hP7.out.box hMB hME hMg 0 _).box hMB hME hMg 1 _
                  have hX8 : Hid (Box ((w7.setCell ⟨M, 0, none⟩ (.int .i32 (a1 : Int))).setCell ⟨M, 1, none⟩ (.int .i32 (a2 : Int))) M (a1 : Int) (a2 : Int)) := hX7.out.set _ _
                  rw [hbs.out] at Heq
                  go_wp2
                  go_roundw
                  case rel => exact ⟨i + m1, a1, a2, acc ++ [(m1, m2)], f, by go_num, by omega, hgd, by omega, Heq, by simp; omega, hP8, hX8⟩
                  case measure => simp [intOf]; omega
            · have hwn' : wor (n1, n2) = false := by simpa using hwn
              rw [hwn'] at cW
              refine wp_region_quiet_below (by kernel_rfl) (by kernel_rfl) ?_
              iterate 2 (go_big_quiet_step (exact cW _ _))
              repeat (go_big_quiet_step (fail))
              refine wpQuiet_nil ?_
              intro _ hwq
              obtain ⟨⟨dq, osq⟩, hwq'⟩ := hwq
              subst hwq'
              have hb8 : Below w7.heap.size w7 (grow (redrawn w7 dq) osq) := below_regrown w7 dq osq
              generalize grow (redrawn w7 dq) osq = w8 at hb8 ⊢
              have hP8 : Hid (Ps w w8 B E b cb g cg M l (i + 1 + 1) acc) := hP7.out.step hb8
              have hQ8 : Hid (Ps w w8 B E b cb g cg N l (i + 1 + 1) acc) := hQ7.out.step hb8
              have hX8 : Hid (Box w8 M (m1 : Int) (m2 : Int)) := hX7.out.below hb8
              have hN8 : Hid (Box w8 N (n1 : Int) (n2 : Int)) := hN7.out.below hb8
              clear hP7 hQ7 hX7 hN7 hb8 k0 k1 k2 k3 cW cV1 cV2 w7
              have hlz : lazy l i (m1, m2) = false := by
                unfold lazy; rw [hbn.out, hwn']; simp
              have v0 := hX8.out.c0
              go_wp2_with fail
              refine (insert_for E b cb g cg l (i + 1 + 1) (i + m1) _ _ _ hP8.out.fd (by omega) (by omega) (by omega) (by omega) (by omega)).mono ?_
              rintro e w9 ⟨rfl, hF9, hR9⟩
              have hP9 : Hid (Ps w w9 B E b cb g cg M l (i + m1) acc) := hP8.out.fr hF9 hR9
              have hX9 : Hid (Box w9 M (m1 : Int) (m2 : Int)) := hX8.out.fr hR9 hME hMg
              clear hF9 hR9 hP8 hX8 v0
              have hPd : Hid (Ps w w9.drew B E b cb g cg M l (i + m1) acc) := hP9.out.step ((Below.refl _ _).drew)
              have hXd : Hid (Box w9.drew M (m1 : Int) (m2 : Int)) := hX9.out.below ((Below.refl _ _).drew)
              have z0 := hX9.out.c0
              have z1 := hX9.out.c1
              obtain ⟨q, s, c, q', c', w2, cS, hr, cS2, fS2, hP6', hBx⟩ := hPd.out.push (by omega) hXd.out.lt m1 m2
              have hP6 : Hid (Ps w (w2.setCell ⟨E, 8212, none⟩ (.slice q' (acc.length + 1) c')) B E b cb g cg M l (i + m1) (acc ++ [(m1, m2)])) := hP6'
              have hX6 : Hid (Box (w2.setCell ⟨E, 8212, none⟩ (.slice q' (acc.length + 1) c')) M (m1 : Int) (m2 : Int)) := hBx M _ _ hXd.out hME hPd.out.apart
              clear hP6' hBx
              have cS9 : w9.cell? ⟨E, 8212, none⟩ = some (.slice q s c) := cS
              have cA9 := cellNew (.cells #[.int .i32 (m1 : Int), .int .i32 (m2 : Int)] 47) cS9
              have u0 := hX6.out.c0
              have Heq : Hid ((acc ++ [(m1, m2)]) ++ prs l f (i + m1) (bst l (i + m1) 8) = steps l) := by
                show _ = _
                rw [← HQ.out, prs_take l f i _ hlt hw' hlz]; simp
              clear cS
              go_wp2_with fail
              go_region_law (refine step_append_run rfl (.tmp 97) (.tmp 99) 39 39 rfl _ _ (by simp [Act.eval]) (by simp [Act.eval]) _ _ hr ?_)
              all_goals
                clear cS9 cA9 hr cS2 fS2 z0 z1
                go_wp2_with fail
                refine (best_for E b cb g cg l (i + m1) 8 _ _ _ hP6.out.fd (by omega) (by omega) (by omega) rfl).mono ?_
                rintro e w7 ⟨rfl, hF7, hR7⟩
                obtain ⟨a1, ha1⟩ : ∃ a1, a1 = (bst l (i + m1) 8).1 := ⟨_, rfl⟩
                obtain ⟨a2, ha2⟩ : ∃ a2, a2 = (bst l (i + m1) 8).2 := ⟨_, rfl⟩
                have hbs : Hid (bst l (i + m1) 8 = (a1, a2)) := by
                  show _ = _
                  rw [ha1, ha2]
                have hgd : Hid (Good l (i + m1) (a1, a2)) := by
                  rw [← hbs.out]; exact bst_good _ _ _
                rw [← ha1, ← ha2]
                clear ha1 ha2
                have hP7 : Hid (Ps w w7 B E b cb g cg M l (i + m1 + 1) (acc ++ [(m1, m2)])) := hP6.out.fr hF7 hR7
                have hX7 : Hid (Box w7 M _ _) := hX6.out.fr hR7 hME hMg
                clear hF7 hR7
                have y0 := hX7.out.c0
                have y1 := hX7.out.c1
                have yf0 := hX7.out.f0 0
                have yf1 := hX7.out.f0 1
                have ys := World.cell?_setCell_other w7 ⟨M, 0, none⟩ ⟨M, 1, none⟩ (.int .i32 (a1 : Int)) (by intro e; injection e with _ e2; cases e2)
                rw [y1] at ys
                have hP8 : Hid (Ps w ((w7.setCell ⟨M, 0, none⟩ (.int .i32 (a1 : Int))).setCell ⟨M, 1, none⟩ (.int .i32 (a2 : Int))) B E b cb g cg M l (i + m1 + 1) (acc ++ [(m1, m2)])) := (hP7.out.box hMB hME hMg 0 _).box hMB hME hMg 1 _
                have hX8 : Hid (Box ((w7.setCell ⟨M, 0, none⟩ (.int .i32 (a1 : Int))).setCell ⟨M, 1, none⟩ (.int .i32 (a2 : Int))) M (a1 : Int) (a2 : Int)) := hX7.out.set _ _
                rw [hbs.out] at Heq
                go_wp2
                go_roundw
                case rel => exact ⟨i + m1, a1, a2, acc ++ [(m1, m2)], f, by go_num, by omega, hgd, by omega, Heq, by simp; omega, hP8, hX8⟩
                case measure => simp [intOf]; omega
          · have hlz : lazy l i (m1, m2) = false := by
              unfold lazy; simp [h32]
            have v0 := hX5.out.c0
            go_wp2_with fail
            refine (insert_for E b cb g cg l (i + 1) (i + m1) _ _ _ hP5.out.fd (by omega) (by omega) (by omega) (by omega) (by omega)).mono ?_
            rintro e w9 ⟨rfl, hF9, hR9⟩
            have hP9 : Hid (Ps w w9 B E b cb g cg M l (i + m1) acc) := hP5.out.fr hF9 hR9
            have hX9 : Hid (Box w9 M (m1 : Int) (m2 : Int)) := hX5.out.fr hR9 hME hMg
            clear hF9 hR9 hP5 hX5 v0
            have hPd : Hid (Ps w w9.drew B E b cb g cg M l (i + m1) acc) := hP9.out.step ((Below.refl _ _).drew)
            have hXd : Hid (Box w9.drew M (m1 : Int) (m2 : Int)) := hX9.out.below ((Below.refl _ _).drew)
            have z0 := hX9.out.c0
            have z1 := hX9.out.c1
            obtain ⟨q, s, c, q', c', w2, cS, hr, cS2, fS2, hP6', hBx⟩ := hPd.out.push (by omega) hXd.out.lt m1 m2
            have hP6 : Hid (Ps w (w2.setCell ⟨E, 8212, none⟩ (.slice q' (acc.length + 1) c')) B E b cb g cg M l (i + m1) (acc ++ [(m1, m2)])) := hP6'
            have hX6 : Hid (Box (w2.setCell ⟨E, 8212, none⟩ (.slice q' (acc.length + 1) c')) M (m1 : Int) (m2 : Int)) := hBx M _ _ hXd.out hME hPd.out.apart
            clear hP6' hBx
            have cS9 : w9.cell? ⟨E, 8212, none⟩ = some (.slice q s c) := cS
            have cA9 := cellNew (.cells #[.int .i32 (m1 : Int), .int .i32 (m2 : Int)] 47) cS9
            have u0 := hX6.out.c0
            have Heq : Hid ((acc ++ [(m1, m2)]) ++ prs l f (i + m1) (bst l (i + m1) 8) = steps l) := by
              show _ = _
              rw [← HQ.out, prs_take l f i _ hlt hw' hlz]; simp
            clear cS
            go_wp2_with fail
            go_region_law (refine step_append_run rfl (.tmp 97) (.tmp 99) 39 39 rfl _ _ (by simp [Act.eval]) (by simp [Act.eval]) _ _ hr ?_)
            all_goals
              clear cS9 cA9 hr cS2 fS2 z0 z1
              go_wp2_with fail
              refine (best_for E b cb g cg l (i + m1) 8 _ _ _ hP6.out.fd (by omega) (by omega) (by omega) rfl).mono ?_
              rintro e w7 ⟨rfl, hF7, hR7⟩
              obtain ⟨a1, ha1⟩ : ∃ a1, a1 = (bst l (i + m1) 8).1 := ⟨_, rfl⟩
              obtain ⟨a2, ha2⟩ : ∃ a2, a2 = (bst l (i + m1) 8).2 := ⟨_, rfl⟩
              have hbs : Hid (bst l (i + m1) 8 = (a1, a2)) := by
                show _ = _
                rw [ha1, ha2]
              have hgd : Hid (Good l (i + m1) (a1, a2)) := by
                rw [← hbs.out]; exact bst_good _ _ _
              rw [← ha1, ← ha2]
              clear ha1 ha2
              have hP7 : Hid (Ps w w7 B E b cb g cg M l (i + m1 + 1) (acc ++ [(m1, m2)])) := hP6.out.fr hF7 hR7
              have hX7 : Hid (Box w7 M _ _) := hX6.out.fr hR7 hME hMg
              clear hF7 hR7
              have y0 := hX7.out.c0
              have y1 := hX7.out.c1
              have yf0 := hX7.out.f0 0
              have yf1 := hX7.out.f0 1
              have ys := World.cell?_setCell_other w7 ⟨M, 0, none⟩ ⟨M, 1, none⟩ (.int .i32 (a1 : Int)) (by intro e; injection e with _ e2; cases e2)
              rw [y1] at ys
              have hP8 : Hid (Ps w ((w7.setCell ⟨M, 0, none⟩ (.int .i32 (a1 : Int))).setCell ⟨M, 1, none⟩ (.int .i32 (a2 : Int))) B E b cb g cg M l (i + m1 + 1) (acc ++ [(m1, m2)])) := (hP7.out.box hMB hME hMg 0 _).box hMB hME hMg 1 _
              have hX8 : Hid (Box ((w7.setCell ⟨M, 0, none⟩ (.int .i32 (a1 : Int))).setCell ⟨M, 1, none⟩ (.int .i32 (a2 : Int))) M (a1 : Int) (a2 : Int)) := hX7.out.set _ _
              rw [hbs.out] at Heq
              go_wp2
              go_roundw
              case rel => exact ⟨i + m1, a1, a2, acc ++ [(m1, m2)], f, by go_num, by omega, hgd, by omega, Heq, by simp; omega, hP8, hX8⟩
              case measure => simp [intOf]; omega
      · have hend : Hid (acc = steps l) := by
          show _ = _
          have := HQ.out
          rw [prs_end l f i _ (by omega)] at this
          simpa using this
        go_wp2
        go_end0
        obtain ⟨sv, c1, ho, _⟩ := hPr.out.steps
        refine ⟨rfl, hPr.out.idle hcm.out, ⟨sv, c1, ?_⟩, hPr.out.below⟩
        rw [← hend.out]
        exact ho
  · clear hst
    have hP2 : ∀ M, w1.heap.size ≤ M → Ps w (w1.setCell ⟨E, 8212, none⟩ (.slice (some ⟨s0, 0, none⟩) 0 cap)) B E b cb g cg M l 0 [] := fun M hM => ps_start hIh.out hR1.out hF1.out hgB hb h1B hB hown0 M hM
    have hPh : Hid (∀ M, w1.heap.size ≤ M → Ps w (w1.setCell ⟨E, 8212, none⟩ (.slice (some ⟨s0, 0, none⟩) 0 cap)) B E b cb g cg M l 0 []) := hP2
    clear hP2 hown0
    go_wp2_with fail
    refine (best_for E b cb g cg l 0 8 _ _ _ (hPh.out w1.heap.size (Nat.le_refl _)).fd (by omega) (by omega) rfl rfl).mono ?_
    rintro e w3 ⟨rfl, hF3, hR3⟩
    obtain ⟨m1, hm1⟩ : ∃ m1, m1 = (bst l 0 8).1 := ⟨_, rfl⟩
    obtain ⟨m2, hm2⟩ : ∃ m2, m2 = (bst l 0 8).2 := ⟨_, rfl⟩
    have hbs : Hid (bst l 0 8 = (m1, m2)) := by
      show _ = _
      rw [hm1, hm2]
    have hgd : Hid (Good l 0 (m1, m2)) := by
      rw [← hbs.out]; exact bst_good _ _ _
    rw [← hm1, ← hm2]
    clear hm1 hm2
    have hP3 : Hid (Ps w w3 B E b cb g cg w3.heap.size l 1 []) := (hPh.out w3.heap.size (by have := hR3.size; simpa [World.setCell] using this)).fr hF3 hR3
    clear hF3 hR3 hPh
    have hP4 : Hid (Ps w (w3.alloc (.cells #[.int .i32 (m1 : Int), .int .i32 (m2 : Int)] 47)) B E b cb g cg w3.heap.size l 1 []) := hP3.out.step ((Below.refl _ _).alloc (Nat.le_refl _) _)
    have hX4 : Hid (Box (w3.alloc (.cells #[.int .i32 (m1 : Int), .int .i32 (m2 : Int)] 47)) w3.heap.size (m1 : Int) (m2 : Int)) := Box.new w3 _ _ 47
    have hME : w3.heap.size ≠ E := by have := hP3.out.fd.E_lt; omega
    have hMg : w3.heap.size ≠ g := by have := hP3.out.fd.g_lt; omega
    have hMB : B ≤ w3.heap.size := by have := hP3.out.below.size; omega
    clear hP3
    go_wp2_with fail
    generalize w3.alloc (.cells #[.int .i32 (m1 : Int), .int .i32 (m2 : Int)] 47) = w4 at hP4 hX4 ⊢
    generalize w3.heap.size = M at hP4 hX4 hME hMg hMB ⊢
    clear w3
    go_loopw [5] (fun iv wr => ∃ (i m1 m2 : Nat) (acc : List (Nat × Nat)) (f : Nat), iv = .int .i64 (i : Int) ∧ i ≤ l.length ∧ Hid (Good l i (m1, m2)) ∧ l.length - i < f ∧ Hid (acc ++ prs l f i (m1, m2) = steps l) ∧ acc.length ≤ i ∧ Hid (Ps w wr B E b cb g cg M l (i + 1) acc) ∧ Hid (Box wr M (m1 : Int) (m2 : Int))) (fun iv _ => l.length - (intOf iv).toNat)
    case atStart => exact ⟨0, m1, m2, [], l.length + 1, rfl, Nat.zero_le _, hgd, by omega, by show _ = _; rw [← hbs.out]; rfl, Nat.zero_le _, hP4, hX4⟩
    case round =>
      clear hgd hbs hP4 hX4 w4
      obtain ⟨i, m1, m2, acc, f, rfl, hil, hgd, hf, HQ, hacc, hPr, hXr⟩ := hrel
      by_cases hlt : i < l.length
      · obtain ⟨hg1, hg2⟩ := good_le hgd.out
        have hm1 : m1 ≤ 1048576 := by simp only at hg1; omega
        have hm2 : m2 ≤ 1048576 := by simp only at hg2; omega
        simp only at hg1 hg2
        obtain ⟨f, rfl⟩ : ∃ f', f = f' + 1 := ⟨f - 1, by omega⟩
        have x0 := hXr.out.c0
        have x1 := hXr.out.c1
        go_wp2_with fail
        refine (worth_any m1 m2 hm1 hm2 _).mono ?_
        rintro e w5 ⟨rfl, hb5⟩
        have hP5 : Hid (Ps w w5 B E b cb g cg M l (i + 1) acc) := hPr.out.step hb5
        have hX5 : Hid (Box w5 M (m1 : Int) (m2 : Int)) := hXr.out.below hb5
        clear hPr hXr x0 x1 hb5 wr
        by_cases hw : wor (m1, m2) = false
        · rw [hw]
          obtain ⟨q, s, c, q', c', w2, cS, hr, cS2, fS2, hP6', hBx⟩ := hP5.out.push (by omega) hX5.out.lt 1 0
          have hP6 : Hid (Ps w (w2.setCell ⟨E, 8212, none⟩ (.slice q' (acc.length + 1) c')) B E b cb g cg M l (i + 1) (acc ++ [(1, 0)])) := hP6'
          have hX6 : Hid (Box (w2.setCell ⟨E, 8212, none⟩ (.slice q' (acc.length + 1) c')) M (m1 : Int) (m2 : Int)) := hBx M _ _ hX5.out hME hP5.out.apart
          clear hP6' hBx
          have Heq : Hid ((acc ++ [(1, 0)]) ++ prs l f (i + 1) (bst l (i + 1) 8) = steps l) := by
            show _ = _
            rw [← HQ.out, prs_lit l f i _ hlt hw]; simp
          go_wp2_with (at_builtin; refine Lib.wpList_append_run _ rfl _ _ _ _ rfl _ _ rfl rfl _ _ hr ?_)
          go_wp2_with fail
          refine (best_for E b cb g cg l (i + 1) 8 _ _ _ hP6.out.fd (by omega) (by omega) (by go_num) rfl).mono ?_
          rintro e w7 ⟨rfl, hF7, hR7⟩
          obtain ⟨a1, ha1⟩ : ∃ a1, a1 = (bst l (i + 1) 8).1 := ⟨_, rfl⟩
          obtain ⟨a2, ha2⟩ : ∃ a2, a2 = (bst l (i + 1) 8).2 := ⟨_, rfl⟩
          have hbs : Hid (bst l (i + 1) 8 = (a1, a2)) := by
            show _ = _
            rw [ha1, ha2]
          have hgd : Hid (Good l (i + 1) (a1, a2)) := by
            rw [← hbs.out]; exact bst_good _ _ _
          rw [← ha1, ← ha2]
          clear ha1 ha2
          have hP7 : Hid (Ps w w7 B E b cb g cg M l (i + 1 + 1) (acc ++ [(1, 0)])) := hP6.out.fr hF7 hR7
          have hX7 : Hid (Box w7 M _ _) := hX6.out.fr hR7 hME hMg
          clear hF7 hR7
          have y0 := hX7.out.c0
          have y1 := hX7.out.c1
          have yf0 := hX7.out.f0 0
          have yf1 := hX7.out.f0 1
          have ys := World.cell?_setCell_other w7 ⟨M, 0, none⟩ ⟨M, 1, none⟩ (.int .i32 (a1 : Int)) (by intro e; injection e with _ e2; cases e2)
          rw [y1] at ys
          have hP8 : Hid (Ps w ((w7.setCell ⟨M, 0, none⟩ (.int .i32 (a1 : Int))).setCell ⟨M, 1, none⟩ (.int .i32 (a2 : Int))) B E b cb g cg M l (i + 1 + 1) (acc ++ [(1, 0)])) := (hP7.out.box hMB hME hMg 0 _).box hMB hME hMg 1 _
          have hX8 : Hid (Box ((w7.setCell ⟨M, 0, none⟩ (.int .i32 (a1 : Int))).setCell ⟨M, 1, none⟩ (.int .i32 (a2 : Int))) M (a1 : Int) (a2 : Int)) := hX7.out.set _ _
          rw [hbs.out] at Heq
          clear cS cS2 fS2 hr
          go_wp2
          go_roundw
          case rel => exact ⟨i + 1, a1, a2, acc ++ [(1, 0)], f, by go_num, by omega, hgd, by omega, Heq, by simp; omega, hP8, hX8⟩
          case measure => simp [intOf]; omega
        · have hw' : wor (m1, m2) = true := by simpa using hw
          rw [hw']
          have h4 : 4 ≤ m1 := wor_four hw'
          have x0 := hX5.out.c0
          by_cases h32 : m1 < 32
          · go_wp2_with fail
            refine (best_for E b cb g cg l (i + 1) 4 _ _ _ hP5.out.fd (by omega) (by omega) (by omega) rfl).mono ?_
            rintro e w6 ⟨rfl, hF6, hR6⟩
            obtain ⟨n1, hn1⟩ : ∃ n1, n1 = (bst l (i + 1) 4).1 := ⟨_, rfl⟩
            obtain ⟨n2, hn2⟩ : ∃ n2, n2 = (bst l (i + 1) 4).2 := ⟨_, rfl⟩
            have hbn : Hid (bst l (i + 1) 4 = (n1, n2)) := by
              show _ = _
              rw [hn1, hn2]
            have hgn : Hid (Good l (i + 1) (n1, n2)) := by
              rw [← hbn.out]; exact bst_good _ _ _
            rw [← hn1, ← hn2]
            clear hn1 hn2
            obtain ⟨hn1, hn2⟩ := good_le hgn.out
            simp only at hn1 hn2
            have hP6 : Hid (Ps w w6 B E b cb g cg M l (i + 1 + 1) acc) := hP5.out.fr hF6 hR6
            have hX6 : Hid (Box w6 M (m1 : Int) (m2 : Int)) := hX5.out.fr hR6 hME hMg
            have hQ6 : Hid (Ps w w6 B E b cb g cg w6.heap.size l (i + 1 + 1) acc) := hP6.out.fresh _ (Nat.le_refl _)
            have hP7 : Hid (Ps w (w6.alloc (.cells #[.int .i32 (n1 : Int), .int .i32 (n2 : Int)] 47)) B E b cb g cg M l (i + 1 + 1) acc) := hP6.out.step ((Below.refl _ _).alloc (Nat.le_refl _) _)
            have hQ7 : Hid (Ps w (w6.alloc (.cells #[.int .i32 (n1 : Int), .int .i32 (n2 : Int)] 47)) B E b cb g cg w6.heap.size l (i + 1 + 1) acc) := hQ6.out.step ((Below.refl _ _).alloc (Nat.le_refl _) _)
            have hX7 : Hid (Box (w6.alloc (.cells #[.int .i32 (n1 : Int), .int .i32 (n2 : Int)] 47)) M (m1 : Int) (m2 : Int)) := hX6.out.alloc _
            have hN7 : Hid (Box (w6.alloc (.cells #[.int .i32 (n1 : Int), .int .i32 (n2 : Int)] 47)) w6.heap.size (n1 : Int) (n2 : Int)) := Box.new w6 _ _ 47
            have hNM : w6.heap.size ≠ M := by have := hX6.out.lt; omega
            have hNE : w6.heap.size ≠ E := by have := hP6.out.fd.E_lt; omega
            clear hP6 hX6 hQ6 hF6 hR6 hP5 hX5 x0
            go_wp2_with fail
            generalize w6.alloc (.cells #[.int .i32 (n1 : Int), .int .i32 (n2 : Int)] 47) = w7 at hP7 hQ7 hX7 hN7 ⊢
            generalize w6.heap.size = N at hQ7 hN7 hNM hNE ⊢
            clear w6
            have k0 := cell_regrown hN7.out.c0
            have k1 := cell_regrown hN7.out.c1
            have k2 := cell_regrown hX7.out.c0
            have k3 := cell_regrown hX7.out.c1
            obtain ⟨vn, hvn⟩ : ∃ vn, Hid (vn = val (n1, n2)) := ⟨_, rfl⟩
            obtain ⟨vm, hvm⟩ : ∃ vm, Hid (vm = val (m1, m2)) := ⟨_, rfl⟩
            have cW : ∀ dr os, Calls Tryd.prog 15 #[.agg #[.int .i32 (n1 : Int), .int .i32 (n2 : Int)]] (grow (redrawn w7 dr) os) fun e w'' => e = .returned (.bool (wor (n1, n2))) ∧ ∃ p : Regrown, w'' = grow (redrawn w7 p.d) p.os := fun dr os => Calls.regrown_of (worth_any n1 n2 (by omega) (by omega) _)
            have cV1 : ∀ dr os, Calls Tryd.prog 16 #[.agg #[.int .i32 (n1 : Int), .int .i32 (n2 : Int)]] (grow (redrawn w7 dr) os) fun e w'' => e = .returned (.int .i64 vn) ∧ ∃ p : Regrown, w'' = grow (redrawn w7 p.d) p.os := fun dr os => by rw [hvn.out]; exact Calls.regrown_of (value_any n1 n2 (by omega) (by omega) _)
            have cV2 : ∀ dr os, Calls Tryd.prog 16 #[.agg #[.int .i32 (m1 : Int), .int .i32 (m2 : Int)]] (grow (redrawn w7 dr) os) fun e w'' => e = .returned (.int .i64 vm) ∧ ∃ p : Regrown, w'' = grow (redrawn w7 p.d) p.os := fun dr os => by rw [hvm.out]; exact Calls.regrown_of (value_any m1 m2 (by omega) (by omega) _)
            by_cases hwn : wor (n1, n2) = true
            · rw [hwn] at cW
              by_cases hv : vm < vn
              · refine wp_region_quiet_below (by kernel_rfl) (by kernel_rfl) ?_
                iterate 2 (go_big_quiet_step (exact cW _ _))
                iterate 3 (go_big_quiet_step (exact cV1 _ _))
                repeat (go_big_quiet_step (exact cV2 _ _))
                refine wpQuiet_nil ?_
                intro _ hwq
                obtain ⟨⟨dq, osq⟩, hwq'⟩ := hwq
                subst hwq'
                have hb8 : Below w7.heap.size w7 (grow (redrawn w7 dq) osq) := below_regrown w7 dq osq
                generalize grow (redrawn w7 dq) osq = w8 at hb8 ⊢
                have hP8 : Hid (Ps w w8 B E b cb g cg M l (i + 1 + 1) acc) := hP7.out.step hb8
                have hQ8 : Hid (Ps w w8 B E b cb g cg N l (i + 1 + 1) acc) := hQ7.out.step hb8
                have hX8 : Hid (Box w8 M (m1 : Int) (m2 : Int)) := hX7.out.below hb8
                have hN8 : Hid (Box w8 N (n1 : Int) (n2 : Int)) := hN7.out.below hb8
                clear hP7 hQ7 hX7 hN7 hb8 k0 k1 k2 k3 cW cV1 cV2 w7
                have hlz : lazy l i (m1, m2) = true := by
                  unfold lazy; rw [hbn.out, hwn, ← hvn.out, ← hvm.out]; simp [h32, hv]
                have j0 := hN8.out.c0
                have j1 := hN8.out.c1
                obtain ⟨q, s, c, q', c', w2, cS, hr, cS2, fS2, hP6', hBx⟩ := hP8.out.push (by omega) hX8.out.lt 1 0
                have hP6 : Hid (Ps w (w2.setCell ⟨E, 8212, none⟩ (.slice q' (acc.length + 1) c')) B E b cb g cg M l (i + 1 + 1) (acc ++ [(1, 0)])) := hP6'
                have hX6 : Hid (Box (w2.setCell ⟨E, 8212, none⟩ (.slice q' (acc.length + 1) c')) M (m1 : Int) (m2 : Int)) := hBx M _ _ hX8.out hME hP8.out.apart
                have hN6 : Hid (Box (w2.setCell ⟨E, 8212, none⟩ (.slice q' (acc.length + 1) c')) N (n1 : Int) (n2 : Int)) := hBx N _ _ hN8.out hNE hQ8.out.apart
                clear hP6' hBx
                have Heq : Hid ((acc ++ [(1, 0)]) ++ prs l f (i + 1) (n1, n2) = steps l) := by
                  show _ = _
                  rw [← HQ.out, prs_lazy l f i _ hlt hw' hlz, hbn.out]; simp
                go_wp2_with (at_builtin; refine Lib.wpList_append_run _ rfl _ _ _ _ rfl _ _ rfl rfl _ _ hr ?_)
                go_wp2_with fail
                clear cS cS2 fS2 hr j0 j1
                generalize w2.setCell ⟨E, 8212, none⟩ (.slice q' (acc.length + 1) c') = w9 at hP6 hX6 hN6 ⊢
                have j0 := hN6.out.c0
                have j1 := hN6.out.c1
                have y0 := hX6.out.c0
                have y1 := hX6.out.c1
                have yf0 := hX6.out.f0 0
                have yf1 := hX6.out.f0 1
                have ys := World.cell?_setCell_other w9 ⟨M, 0, none⟩ ⟨M, 1, none⟩ (.int .i32 (n1 : Int)) (by intro e; injection e with _ e2; cases e2)
                rw [y1] at ys
                have jj0 : ∀ v, (w9.setCell ⟨M, 0, none⟩ v).cell? ⟨N, 0, none⟩ = some (.int .i32 (n1 : Int)) := fun v => (hN6.out.far (p := ⟨M, 0, none⟩) hNM v).c0
                have jj1 : ∀ v, (w9.setCell ⟨M, 0, none⟩ v).cell? ⟨N, 1, none⟩ = some (.int .i32 (n2 : Int)) := fun v => (hN6.out.far (p := ⟨M, 0, none⟩) hNM v).c1
                have hP10 : Hid (Ps w ((w9.setCell ⟨M, 0, none⟩ (.int .i32 (n1 : Int))).setCell ⟨M, 1, none⟩ (.int .i32 (n2 : Int))).drew B E b cb g cg M l (i + 1 + 1) (acc ++ [(1, 0)])) := ((hP6.out.box hMB hME hMg 0 _).box hMB hME hMg 1 _).step ((Below.refl _ _).drew)
                have hX10 : Hid (Box ((w9.setCell ⟨M, 0, none⟩ (.int .i32 (n1 : Int))).setCell ⟨M, 1, none⟩ (.int .i32 (n2 : Int))).drew M (n1 : Int) (n2 : Int)) := (hX6.out.set _ _).below ((Below.refl _ _).drew)
                go_region
                all_goals
                  go_wp2
                  go_roundw
                  case rel => exact ⟨i + 1, n1, n2, acc ++ [(1, 0)], f, by go_num, by omega, hgn, by omega, Heq, by simp; omega, hP10, hX10⟩
                  case measure => simp [intOf]; omega
              · refine wp_region_quiet_below (by kernel_rfl) (by kernel_rfl) ?_
                iterate 2 (go_big_quiet_step (exact cW _ _))
                iterate 3 (go_big_quiet_step (exact cV1 _ _))
                repeat (go_big_quiet_step (exact cV2 _ _))
                refine wpQuiet_nil ?_
                intro _ hwq
                obtain ⟨⟨dq, osq⟩, hwq'⟩ := hwq
                subst hwq'
                have hb8 : Below w7.heap.size w7 (grow (redrawn w7 dq) osq) := below_regrown w7 dq osq
                generalize grow (redrawn w7 dq) osq = w8 at hb8 ⊢
                have hP8 : Hid (Ps w w8 B E b cb g cg M l (i + 1 + 1) acc) := hP7.out.step hb8
                have hQ8 : Hid (Ps w w8 B E b cb g cg N l (i + 1 + 1) acc) := hQ7.out.step hb8
                have hX8 : Hid (Box w8 M (m1 : Int) (m2 : Int)) := hX7.out.below hb8
                have hN8 : Hid (Box w8 N (n1 : Int) (n2 : Int)) := hN7.out.below hb8
                clear hP7 hQ7 hX7 hN7 hb8 k0 k1 k2 k3 cW cV1 cV2 w7
                have hlz : lazy l i (m1, m2) = false := by
                  unfold lazy; rw [hbn.out, hwn, ← hvn.out, ← hvm.out]; simp [hv]
                have v0 := hX8.out.c0
                go_wp2_with fail
                refine (insert_for E b cb g cg l (i + 1 + 1) (i + m1) _ _ _ hP8.out.fd (by omega) (by omega) (by omega) (by omega) (by omega)).mono ?_
                rintro e w9 ⟨rfl, hF9, hR9⟩
                have hP9 : Hid (Ps w w9 B E b cb g cg M l (i + m1) acc) := hP8.out.fr hF9 hR9
                have hX9 : Hid (Box w9 M (m1 : Int) (m2 : Int)) := hX8.out.fr hR9 hME hMg
                clear hF9 hR9 hP8 hX8 v0
                have hPd : Hid (Ps w w9.drew B E b cb g cg M l (i + m1) acc) := hP9.out.step ((Below.refl _ _).drew)
                have hXd : Hid (Box w9.drew M (m1 : Int) (m2 : Int)) := hX9.out.below ((Below.refl _ _).drew)
                have z0 := hX9.out.c0
                have z1 := hX9.out.c1
                obtain ⟨q, s, c, q', c', w2, cS, hr, cS2, fS2, hP6', hBx⟩ := hPd.out.push (by omega) hXd.out.lt m1 m2
                have hP6 : Hid (Ps w (w2.setCell ⟨E, 8212, none⟩ (.slice q' (acc.length + 1) c')) B E b cb g cg M l (i + m1) (acc ++ [(m1, m2)])) := hP6'
                have hX6 : Hid (Box (w2.setCell ⟨E, 8212, none⟩ (.slice q' (acc.length + 1) c')) M (m1 : Int) (m2 : Int)) := hBx M _ _ hXd.out hME hPd.out.apart
                clear hP6' hBx
                have cS9 : w9.cell? ⟨E, 8212, none⟩ = some (.slice q s c) := cS
                have cA9 := cellNew (.cells #[.int .i32 (m1 : Int), .int .i32 (m2 : Int)] 47) cS9
                have u0 := hX6.out.c0
                have Heq : Hid ((acc ++ [(m1, m2)]) ++ prs l f (i + m1) (bst l (i + m1) 8) = steps l) := by
                  show _ = _
                  rw [← HQ.out, prs_take l f i _ hlt hw' hlz]; simp
                clear cS
                go_wp2_with fail
                go_region_law (refine step_append_run rfl (.tmp 97) (.tmp 99) 39 39 rfl _ _ (by simp [Act.eval]) (by simp [Act.eval]) _ _ hr ?_)
                all_goals
                  clear cS9 cA9 hr cS2 fS2 z0 z1
                  go_wp2_with fail
                  refine (best_for E b cb g cg l (i + m1) 8 _ _ _ hP6.out.fd (by omega) (by omega) (by omega) rfl).mono ?_
                  rintro e w7 ⟨rfl, hF7, hR7⟩
                  obtain ⟨a1, ha1⟩ : ∃ a1, a1 = (bst l (i + m1) 8).1 := ⟨_, rfl⟩
                  obtain ⟨a2, ha2⟩ : ∃ a2, a2 = (bst l (i + m1) 8).2 := ⟨_, rfl⟩
                  have hbs : Hid (bst l (i + m1) 8 = (a1, a2)) := by
                    show _ = _
                    rw [ha1, ha2]
                  have hgd : Hid (Good l (i + m1) (a1, a2)) := by
                    rw [← hbs.out]; exact bst_good _ _ _
                  rw [← ha1, ← ha2]
                  clear ha1 ha2
                  have hP7 : Hid (Ps w w7 B E b cb g cg M l (i + m1 + 1) (acc ++ [(m1, m2)])) := hP6.out.fr hF7 hR7
                  have hX7 : Hid (Box w7 M _ _) := hX6.out.fr hR7 hME hMg
                  clear hF7 hR7
                  have y0 := hX7.out.c0
                  have y1 := hX7.out.c1
                  have yf0 := hX7.out.f0 0
                  have yf1 := hX7.out.f0 1
                  have ys := World.cell?_setCell_other w7 ⟨M, 0, none⟩ ⟨M, 1, none⟩ (.int .i32 (a1 : Int)) (by intro e; injection e with _ e2; cases e2)
                  rw [y1] at ys
                  have hP8 : Hid (Ps w ((w7.setCell ⟨M, 0, none⟩ (.int .i32 (a1 : Int))).setCell ⟨M, 1, none⟩ (.int .i32 (a2 : Int))) B E b cb g cg M l (i + m1 + 1) (acc ++ [(m1, m2)])) := (hP7.out.box hMB hME hMg 0 _).box hMB hME hMg 1 _
                  have hX8 : Hid (Box ((w7.setCell ⟨M, 0, none⟩ (.int .i32 (a1 : Int))).setCell ⟨M, 1, none⟩ (.int .i32 (a2 : Int))) M (a1 : Int) (a2 : Int)) := hX7.out.set _ _
                  rw [hbs.out] at Heq
                  go_wp2
                  go_roundw
                  case rel => exact ⟨i + m1, a1, a2, acc ++ [(m1, m2)], f, by go_num, by omega, hgd, by omega, Heq, by simp; omega, hP8, hX8⟩
                  case measure => simp [intOf]; omega
            · have hwn' : wor (n1, n2) = false := by simpa using hwn
              rw [hwn'] at cW
              refine wp_region_quiet_below (by kernel_rfl) (by kernel_rfl) ?_
              iterate 2 (go_big_quiet_step (exact cW _ _))
              repeat (go_big_quiet_step (fail))
              refine wpQuiet_nil ?_
              intro _ hwq
              obtain ⟨⟨dq, osq⟩, hwq'⟩ := hwq
              subst hwq'
              have hb8 : Below w7.heap.size w7 (grow (redrawn w7 dq) osq) := below_regrown w7 dq osq
              generalize grow (redrawn w7 dq) osq = w8 at hb8 ⊢
              have hP8 : Hid (Ps w w8 B E b cb g cg M l (i + 1 + 1) acc) := hP7.out.step hb8
              have hQ8 : Hid (Ps w w8 B E b cb g cg N l (i + 1 + 1) acc) := hQ7.out.step hb8
              have hX8 : Hid (Box w8 M (m1 : Int) (m2 : Int)) := hX7.out.below hb8
              have hN8 : Hid (Box w8 N (n1 : Int) (n2 : Int)) := hN7.out.below hb8
              clear hP7 hQ7 hX7 hN7 hb8 k0 k1 k2 k3 cW cV1 cV2 w7
              have hlz : lazy l i (m1, m2) = false := by
                unfold lazy; rw [hbn.out, hwn']; simp
              have v0 := hX8.out.c0
              go_wp2_with fail
              refine (insert_for E b cb g cg l (i + 1 + 1) (i + m1) _ _ _ hP8.out.fd (by omega) (by omega) (by omega) (by omega) (by omega)).mono ?_
              rintro e w9 ⟨rfl, hF9, hR9⟩
              have hP9 : Hid (Ps w w9 B E b cb g cg M l (i + m1) acc) := hP8.out.fr hF9 hR9
              have hX9 : Hid (Box w9 M (m1 : Int) (m2 : Int)) := hX8.out.fr hR9 hME hMg
              clear hF9 hR9 hP8 hX8 v0
              have hPd : Hid (Ps w w9.drew B E b cb g cg M l (i + m1) acc) := hP9.out.step ((Below.refl _ _).drew)
              have hXd : Hid (Box w9.drew M (m1 : Int) (m2 : Int)) := hX9.out.below ((Below.refl _ _).drew)
              have z0 := hX9.out.c0
              have z1 := hX9.out.c1
              obtain ⟨q, s, c, q', c', w2, cS, hr, cS2, fS2, hP6', hBx⟩ := hPd.out.push (by omega) hXd.out.lt m1 m2
              have hP6 : Hid (Ps w (w2.setCell ⟨E, 8212, none⟩ (.slice q' (acc.length + 1) c')) B E b cb g cg M l (i + m1) (acc ++ [(m1, m2)])) := hP6'
              have hX6 : Hid (Box (w2.setCell ⟨E, 8212, none⟩ (.slice q' (acc.length + 1) c')) M (m1 : Int) (m2 : Int)) := hBx M _ _ hXd.out hME hPd.out.apart
              clear hP6' hBx
              have cS9 : w9.cell? ⟨E, 8212, none⟩ = some (.slice q s c) := cS
              have cA9 := cellNew (.cells #[.int .i32 (m1 : Int), .int .i32 (m2 : Int)] 47) cS9
              have u0 := hX6.out.c0
              have Heq : Hid ((acc ++ [(m1, m2)]) ++ prs l f (i + m1) (bst l (i + m1) 8) = steps l) := by
                show _ = _
                rw [← HQ.out, prs_take l f i _ hlt hw' hlz]; simp
              clear cS
              go_wp2_with fail
              go_region_law (refine step_append_run rfl (.tmp 97) (.tmp 99) 39 39 rfl _ _ (by simp [Act.eval]) (by simp [Act.eval]) _ _ hr ?_)
              all_goals
                clear cS9 cA9 hr cS2 fS2 z0 z1
                go_wp2_with fail
                refine (best_for E b cb g cg l (i + m1) 8 _ _ _ hP6.out.fd (by omega) (by omega) (by omega) rfl).mono ?_
                rintro e w7 ⟨rfl, hF7, hR7⟩
                obtain ⟨a1, ha1⟩ : ∃ a1, a1 = (bst l (i + m1) 8).1 := ⟨_, rfl⟩
                obtain ⟨a2, ha2⟩ : ∃ a2, a2 = (bst l (i + m1) 8).2 := ⟨_, rfl⟩
                have hbs : Hid (bst l (i + m1) 8 = (a1, a2)) := by
                  show _ = _
                  rw [ha1, ha2]
                have hgd : Hid (Good l (i + m1) (a1, a2)) := by
                  rw [← hbs.out]; exact bst_good _ _ _
                rw [← ha1, ← ha2]
                clear ha1 ha2
                have hP7 : Hid (Ps w w7 B E b cb g cg M l (i + m1 + 1) (acc ++ [(m1, m2)])) := hP6.out.fr hF7 hR7
                have hX7 : Hid (Box w7 M _ _) := hX6.out.fr hR7 hME hMg
                clear hF7 hR7
                have y0 := hX7.out.c0
                have y1 := hX7.out.c1
                have yf0 := hX7.out.f0 0
                have yf1 := hX7.out.f0 1
                have ys := World.cell?_setCell_other w7 ⟨M, 0, none⟩ ⟨M, 1, none⟩ (.int .i32 (a1 : Int)) (by intro e; injection e with _ e2; cases e2)
                rw [y1] at ys
                have hP8 : Hid (Ps w ((w7.setCell ⟨M, 0, none⟩ (.int .i32 (a1 : Int))).setCell ⟨M, 1, none⟩ (.int .i32 (a2 : Int))) B E b cb g cg M l (i + m1 + 1) (acc ++ [(m1, m2)])) := (hP7.out.box hMB hME hMg 0 _).box hMB hME hMg 1 _
                have hX8 : Hid (Box ((w7.setCell ⟨M, 0, none⟩ (.int .i32 (a1 : Int))).setCell ⟨M, 1, none⟩ (.int .i32 (a2 : Int))) M (a1 : Int) (a2 : Int)) := hX7.out.set _ _
                rw [hbs.out] at Heq
                go_wp2
                go_roundw
                case rel => exact ⟨i + m1, a1, a2, acc ++ [(m1, m2)], f, by go_num, by omega, hgd, by omega, Heq, by simp; omega, hP8, hX8⟩
                case measure => simp [intOf]; omega
          · have hlz : lazy l i (m1, m2) = false := by
              unfold lazy; simp [h32]
            have v0 := hX5.out.c0
            go_wp2_with fail
            refine (insert_for E b cb g cg l (i + 1) (i + m1) _ _ _ hP5.out.fd (by omega) (by omega) (by omega) (by omega) (by omega)).mono ?_
            rintro e w9 ⟨rfl, hF9, hR9⟩
            have hP9 : Hid (Ps w w9 B E b cb g cg M l (i + m1) acc) := hP5.out.fr hF9 hR9
            have hX9 : Hid (Box w9 M (m1 : Int) (m2 : Int)) := hX5.out.fr hR9 hME hMg
            clear hF9 hR9 hP5 hX5 v0
            have hPd : Hid (Ps w w9.drew B E b cb g cg M l (i + m1) acc) := hP9.out.step ((Below.refl _ _).drew)
            have hXd : Hid (Box w9.drew M (m1 : Int) (m2 : Int)) := hX9.out.below ((Below.refl _ _).drew)
            have z0 := hX9.out.c0
            have z1 := hX9.out.c1
            obtain ⟨q, s, c, q', c', w2, cS, hr, cS2, fS2, hP6', hBx⟩ := hPd.out.push (by omega) hXd.out.lt m1 m2
            have hP6 : Hid (Ps w (w2.setCell ⟨E, 8212, none⟩ (.slice q' (acc.length + 1) c')) B E b cb g cg M l (i + m1) (acc ++ [(m1, m2)])) := hP6'
            have hX6 : Hid (Box (w2.setCell ⟨E, 8212, none⟩ (.slice q' (acc.length + 1) c')) M (m1 : Int) (m2 : Int)) := hBx M _ _ hXd.out hME hPd.out.apart
            clear hP6' hBx
            have cS9 : w9.cell? ⟨E, 8212, none⟩ = some (.slice q s c) := cS
            have cA9 := cellNew (.cells #[.int .i32 (m1 : Int), .int .i32 (m2 : Int)] 47) cS9
            have u0 := hX6.out.c0
            have Heq : Hid ((acc ++ [(m1, m2)]) ++ prs l f (i + m1) (bst l (i + m1) 8) = steps l) := by
              show _ = _
              rw [← HQ.out, prs_take l f i _ hlt hw' hlz]; simp
            clear cS
            go_wp2_with fail
            go_region_law (refine step_append_run rfl (.tmp 97) (.tmp 99) 39 39 rfl _ _ (by simp [Act.eval]) (by simp [Act.eval]) _ _ hr ?_)
            all_goals
              clear cS9 cA9 hr cS2 fS2 z0 z1
              go_wp2_with fail
              refine (best_for E b cb g cg l (i + m1) 8 _ _ _ hP6.out.fd (by omega) (by omega) (by omega) rfl).mono ?_
              rintro e w7 ⟨rfl, hF7, hR7⟩
              obtain ⟨a1, ha1⟩ : ∃ a1, a1 = (bst l (i + m1) 8).1 := ⟨_, rfl⟩
              obtain ⟨a2, ha2⟩ : ∃ a2, a2 = (bst l (i + m1) 8).2 := ⟨_, rfl⟩
              have hbs : Hid (bst l (i + m1) 8 = (a1, a2)) := by
                show _ = _
                rw [ha1, ha2]
              have hgd : Hid (Good l (i + m1) (a1, a2)) := by
                rw [← hbs.out]; exact bst_good _ _ _
              rw [← ha1, ← ha2]
              clear ha1 ha2
              have hP7 : Hid (Ps w w7 B E b cb g cg M l (i + m1 + 1) (acc ++ [(m1, m2)])) := hP6.out.fr hF7 hR7
              have hX7 : Hid (Box w7 M _ _) := hX6.out.fr hR7 hME hMg
              clear hF7 hR7
              have y0 := hX7.out.c0
              have y1 := hX7.out.c1
              have yf0 := hX7.out.f0 0
              have yf1 := hX7.out.f0 1
              have ys := World.cell?_setCell_other w7 ⟨M, 0, none⟩ ⟨M, 1, none⟩ (.int .i32 (a1 : Int)) (by intro e; injection e with _ e2; cases e2)
              rw [y1] at ys
              have hP8 : Hid (Ps w ((w7.setCell ⟨M, 0, none⟩ (.int .i32 (a1 : Int))).setCell ⟨M, 1, none⟩ (.int .i32 (a2 : Int))) B E b cb g cg M l (i + m1 + 1) (acc ++ [(m1, m2)])) := (hP7.out.box hMB hME hMg 0 _).box hMB hME hMg 1 _
              have hX8 : Hid (Box ((w7.setCell ⟨M, 0, none⟩ (.int .i32 (a1 : Int))).setCell ⟨M, 1, none⟩ (.int .i32 (a2 : Int))) M (a1 : Int) (a2 : Int)) := hX7.out.set _ _
              rw [hbs.out] at Heq
              go_wp2
              go_roundw
              case rel => exact ⟨i + m1, a1, a2, acc ++ [(m1, m2)], f, by go_num, by omega, hgd, by omega, Heq, by simp; omega, hP8, hX8⟩
              case measure => simp [intOf]; omega
      · have hend : Hid (acc = steps l) := by
          show _ = _
          have := HQ.out
          rw [prs_end l f i _ (by omega)] at this
          simpa using this
        go_wp2
        go_end0
        obtain ⟨sv, c1, ho, _⟩ := hPr.out.steps
        refine ⟨rfl, hPr.out.idle hcm.out, ⟨sv, c1, ?_⟩, hPr.out.below⟩
        rw [← hend.out]
        exact ho

end Go.Proofs.Qxb6625871aDoor
