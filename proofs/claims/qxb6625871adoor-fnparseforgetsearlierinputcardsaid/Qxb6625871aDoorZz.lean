import Derived.Test.Qxb6625871aDoorHand
/-! The walks of zzClone, ZZparseSteps, ZZparseAfter. -/
namespace Go.Proofs.Qxb6625871aDoor
open Go.RowKit Go.Sort

/-- A slice value that reads as these bytes. -/
def Rd (w : World) (v : Value) (l : List UInt8) : Prop :=
  (l = [] ∧ ((∃ c, v = .slice none 0 c) ∨ ∃ a c, v = .slice (some a) 0 c)) ∨ ∃ b o c, v = .slice (some ⟨b, o, none⟩) l.length c ∧ ∀ i, i < l.length → w.cell? ⟨b, o + i, none⟩ = some (.int .u8 ((bt l i).toNat : Int))

/-- An input of the parse: bytes from a block's head on, the block below B. -/
def Inp (w : World) (v : Value) (l : List UInt8) (B : Nat) : Prop :=
  ∃ q c, v = .slice q l.length c ∧ (0 < l.length → ∃ b, q = some ⟨b, 0, none⟩ ∧ l.length ≤ c ∧ b < B ∧ Src w b l)

theorem Inp.below {w w' : World} {v : Value} {l : List UInt8} {B : Nat} (h : Inp w v l B) (hb : Below B w w') : Inp w' v l B := by
  obtain ⟨q, c, rfl, h⟩ := h
  refine ⟨q, c, rfl, fun hn => ?_⟩
  obtain ⟨b, h1, h2, h3, h4⟩ := h hn
  exact ⟨b, h1, h2, h3, fun i hi => (hb.cell (p := ⟨b, i, none⟩) h3).trans (h4 i hi)⟩
theorem Inp.wide {w : World} {v : Value} {l : List UInt8} {B B' : Nat} (h : Inp w v l B) (hb : B ≤ B') : Inp w v l B' := by
  obtain ⟨q, c, rfl, h⟩ := h
  refine ⟨q, c, rfl, fun hn => ?_⟩
  obtain ⟨b, h1, h2, h3, h4⟩ := h hn
  exact ⟨b, h1, h2, by omega, h4⟩

/-- The first j cells of a row hold l's bytes. -/
structure By (w : World) (g : Nat) (l : List UInt8) (k j : Nat) : Prop where
  cell : ∀ t, t < k → w.cell? ⟨g, t, none⟩ = some (.int .u8 (if t < j then ((bt l t).toNat : Int) else 0))
  froz : ∀ o, w.frozen? ⟨g, o, none⟩ = false
theorem By.step {w : World} {g k j : Nat} {l : List UInt8} (h : By w g l k j) (hj : j < k) : By (w.setCell ⟨g, j, none⟩ (.int .u8 ((bt l j).toNat : Int))) g l k (j + 1) := by
  refine ⟨fun t ht => ?_, fun o => by simp only [World.frozen?_setCell]; exact h.froz o⟩
  by_cases e : t = j
  · subst e
    rw [World.cell?_setCell_same (u := _) _ _ _ (h.cell t ht), if_pos (by omega)]
  · rw [World.cell?_setCell_other _ _ _ _ (by intro e2; injection e2 with _ e3; exact e e3.symm), h.cell t ht]
    by_cases h2 : t < j
    · rw [if_pos h2, if_pos (by omega)]
    · rw [if_neg h2, if_neg (by omega)]

set_option maxHeartbeats 400000 in
theorem clone_nil (c : Nat) (w : World) :
    Calls Tryd.prog 6 #[.slice none 0 c] w fun e w' => e = .returned (.slice none 0 0) ∧ w' = w := by
  have hnil := fun (wx : World) => Lib.run_eql_slice_nil (P := Tryd.prog) wx 22 5 none 0 c 0 0 Tryd.underlying22
  go_enter Tryd.func6, Tryd.ntmps6
  go_wp2
  go_ret
  exact ⟨rfl, rfl⟩

set_option maxHeartbeats 400000 in
theorem clone_some (b o c n : Nat) (l : List UInt8) (hn : l.length = n) (hl : n ≤ 1048576) (w : World)
    (hc : ∀ i, i < n → w.cell? ⟨b, o + i, none⟩ = some (.int .u8 ((bt l i).toNat : Int))) :
    Calls Tryd.prog 6 #[.slice (some ⟨b, o, none⟩) n c] w fun e w' => e = .returned (.slice (some ⟨w.heap.size, 0, none⟩) n n) ∧ Src w' w.heap.size l ∧ Below w.heap.size w w' := by
  obtain ⟨i0, hi, hz0, hz1, hz2⟩ := info_parts infoByte
  have hnil := fun (wx : World) => Lib.run_eql_slice_nil (P := Tryd.prog) wx 22 5 (some ⟨b, o, none⟩) n c 0 0 Tryd.underlying22
  have HN : Hid (l.length = n) := hn
  have HC : Hid (∀ i, i < n → w.cell? ⟨b, o + i, none⟩ = some (.int .u8 ((bt l i).toNat : Int))) := hc
  clear hn hc
  go_enter Tryd.func6, Tryd.ntmps6
  go_wp2_with (at_make; refine wpList_make_full w rfl _ _ 22 rfl w.heap.size 5 i0 (.int .u8 0) 1 Tryd.underlying22 hi hz0 hz1 .i64 .i64 _ _ n rfl rfl rfl rfl ?b2 ?b3 (Nat.le_refl _) ?_)
  case b2 => rw [hz2]; omega
  case b3 => unfold maxLen; omega
  intro w1 hown1 hg1
  have hB1 : Hid (Below w.heap.size w w1) := (Below.refl _ _).grown hg1 (Nat.le_refl _) (fun k hk => by cases hk)
  have hA1 : Hid (By w1 w.heap.size l n 0) := by
    refine ⟨fun t ht => ?_, hown1.frozenAt⟩
    rw [hown1.cellAt t (by omega), toList_madeCells_one, if_neg (by omega)]
    simp [ht]
  clear hown1 hg1
  obtain ⟨g, hg⟩ : ∃ g, Hid (g = w.heap.size) := ⟨_, rfl⟩
  rw [← hg.out] at hA1
  rw [← hg.out]
  go_wp2
  go_loopw [4] (fun jv wr => ∃ j : Nat, jv = .int .i64 (j : Int) ∧ j ≤ n ∧ Hid (By wr g l n j) ∧ Hid (Below w.heap.size w wr)) (fun jv _ => n - (intOf jv).toNat)
  case atStart => exact ⟨0, rfl, Nat.zero_le _, hA1, hB1⟩
  case round =>
    clear hA1 hB1
    obtain ⟨j, rfl, hjn, hA, hB⟩ := hrel
    by_cases hlt : j < n
    · have c0 := HC.out j hlt
      have ck := (hB.out.cell (p := ⟨b, o + j, none⟩) (block_lt_of_cell c0)).trans c0
      have a1 := hA.out.cell j hlt
      rw [if_neg (by omega)] at a1
      have f1 := hA.out.froz j
      clear c0
      go_wp2
      go_roundw
      case rel => exact ⟨j + 1, by go_num, by omega, hA.out.step hlt, hB.out.setCell (p := ⟨g, j, none⟩) (Nat.le_of_eq hg.out.symm) _⟩
      case measure => simp [intOf]; omega
    · have hjn2 : j = n := by omega
      rw [hjn2] at hA
      go_wp2
      go_ret
      refine ⟨by rw [hg.out]; rfl, fun i hi => ?_, hB.out⟩
      rw [HN.out] at hi
      rw [← hg.out, hA.out.cell i hi, if_pos hi]

set_option maxHeartbeats 400000 in
theorem clone_empty (a : Addr) (c : Nat) (w : World) :
    Calls Tryd.prog 6 #[.slice (some a) 0 c] w fun e w' => e = .returned (.slice (some ⟨w.heap.size, 0, none⟩) 0 0) ∧ Below w.heap.size w w' := by
  obtain ⟨i0, hi, hz0, hz1, hz2⟩ := info_parts infoByte
  have hnil := fun (wx : World) => Lib.run_eql_slice_nil (P := Tryd.prog) wx 22 5 (some a) 0 c 0 0 Tryd.underlying22
  go_enter Tryd.func6, Tryd.ntmps6
  go_wp2_with (at_make; refine wpList_make_full w rfl _ _ 22 rfl w.heap.size 5 i0 (.int .u8 0) 1 Tryd.underlying22 hi hz0 hz1 .i64 .i64 _ _ 0 rfl rfl rfl rfl ?b2 ?b3 (Nat.le_refl _) ?_)
  case b2 => simp
  case b3 => simp
  intro w1 hown1 hg1
  have hb1 : Below w.heap.size w w1 := (Below.refl _ _).grown hg1 (Nat.le_refl _) (fun k hk => by cases hk)
  go_wp2
  go_loop [4] (fun i => i = .int .i64 0) (fun _ => 0)
  case atStart => rfl
  case round =>
    subst hrel
    go_wp2
    go_ret
    exact ⟨rfl, hb1⟩

theorem clone_any (v : Value) (l : List UInt8) (n : Nat) (hn : l.length = n) (hl : n ≤ 1048576) (w : World) (hv : Rd w v l) :
    Calls Tryd.prog 6 #[v] w fun e w' => ∃ q c, e = .returned (.slice q n c) ∧ Inp w' (.slice q n c) l (w.heap.size + 1) ∧ Below w.heap.size w w' := by
  subst hn
  rcases hv with ⟨rfl, ⟨c, rfl⟩ | ⟨a, c, rfl⟩⟩ | ⟨b, o, c, rfl, hc⟩
  · refine (clone_nil c w).mono ?_
    rintro e w' ⟨rfl, rfl⟩
    exact ⟨none, 0, rfl, ⟨none, 0, rfl, fun h => by simp at h⟩, Below.refl _ _⟩
  · refine (clone_empty a c w).mono ?_
    rintro e w' ⟨rfl, hb⟩
    exact ⟨_, 0, rfl, ⟨_, 0, rfl, fun h => by simp at h⟩, hb⟩
  · refine (clone_some b o c l.length l rfl hl w hc).mono ?_
    rintro e w' ⟨rfl, hs, hb⟩
    exact ⟨_, _, rfl, ⟨_, _, rfl, fun _ => ⟨_, rfl, Nat.le_refl _, Nat.lt_succ_self _, hs⟩⟩, hb⟩

/-! ### The parse, whatever the input -/
theorem parse_any (w : World) (B E : Nat) (v : Value) (l : List UInt8) (hI : Idle w B E) (hB : B ≤ w.heap.size) (h1B : 1 < B) (hT : TabAt 1 Lib.deBruijn64tab w) (hv : Inp w v l B) (hsm : l.length ≤ 1048576) :
    Calls Tryd.prog 11 #[.pointer (some ⟨E, 0, none⟩), v] w
      fun e w' => e = .returned (.tuple #[]) ∧ Idle w' B E ∧ (∃ sv, w'.cell? ⟨E, 8212, none⟩ = some sv ∧ w'.ownsRow B 47 2 sv (steps l).length (flat (steps l))) ∧ Below B w w' := by
  obtain ⟨q, c, rfl, h⟩ := hv
  by_cases hn : 0 < l.length
  · obtain ⟨b, rfl, h2, h3, h4⟩ := h hn
    exact parse_at w B E b c l hI hB h3 h1B h4 hT hn h2 hsm
  · obtain rfl : l = [] := List.eq_nil_of_length_eq_zero (by omega)
    have e : steps [] = [] := rfl
    rw [e]
    exact parse_zero w B E c q hI hB

theorem tile_len (l : List UInt8) : ∀ r pos, Tile l pos r → r.length + pos ≤ l.length
  | [], pos, h => by have : pos = l.length := h; simp; omega
  | m :: r, pos, h => by
    obtain ⟨hp, ⟨_, ht⟩ | ⟨h4, _, _, ht⟩⟩ := h
    · have := tile_len l r _ ht; simp; omega
    · have := tile_len l r _ ht; simp; omega
theorem steps_len (l : List UInt8) (hn : l.length ≤ 1048576) : (steps l).length ≤ l.length := by
  have := tile_len l _ _ (steps_tile l hn); omega

set_option maxHeartbeats 400000 in
theorem zsteps_at (w : World) (v : Value) (l : List UInt8) (K : Nat) (hK : (steps l).length = K) (hv : Inp w v l w.heap.size) (h1 : 1 < w.heap.size) (hT : TabAt 1 Lib.deBruijn64tab w) (hsm : l.length ≤ 1048576) :
    Calls Tryd.prog 7 #[v] w fun e w' => ∃ g1 g2, e = .returned (.tuple #[.slice (some ⟨g1, 0, none⟩) K K, .slice (some ⟨g2, 0, none⟩) K K]) ∧ Two w' w.heap.size g1 g2 (steps l) ∧ Below w.heap.size w w' := by
  obtain ⟨cs, hz, hzo⟩ := zero41
  have hKl : K ≤ 1048576 := by have := steps_len l hsm; omega
  have hzh : Hid (okl cs.toList 0 = true) := hzo
  have hKh : Hid ((steps l).length = K) := hK
  have hTh : Hid (TabAt 1 Lib.deBruijn64tab w) := hT
  have hvh : Hid (Inp w v l w.heap.size) := hv
  clear hzo hK hT hv
  go_enter Tryd.func7, Tryd.ntmps7
  go_wp2_with fail
  have hal : Below w.heap.size w (w.alloc (.cells cs 41)) := (Below.refl _ _).alloc (Nat.le_refl _) _
  refine (parse_any _ w.heap.size w.heap.size v l (idle_new w cs hzh.out _ (Nat.le_refl _)) (by simp) h1 (tab_below hTh.out hal) (hvh.out.below hal) hsm).mono ?_
  rintro e w2 ⟨rfl, _, ⟨sv, hsv, hso⟩, hb2⟩
  have hb3 : Hid (Below w.heap.size w w2) := hal.trans hb2
  clear hal hb2
  obtain ⟨E, hE⟩ : ∃ E, Hid (E = w.heap.size) := ⟨_, rfl⟩
  rw [← hE.out] at hsv
  rw [← hE.out]
  have hso' : Hid (w2.ownsRow w.heap.size 47 2 sv (steps l).length (flat (steps l))) := hso
  have hsv' : Hid (w2.cell? ⟨E, 8212, none⟩ = some sv) := hsv
  clear hso hsv
  go_wp2_with fail
  refine (stepsOf_at w2 _ E sv (steps l) K hKh.out hsv'.out hso'.out hKl).mono ?_
  rintro e w3 ⟨g1, g2, rfl, hT3, hb4⟩
  go_wp2
  go_ret2
  have hs := hb3.out.size
  exact ⟨g1, g2, rfl, ⟨hT3.one, hT3.two, by have := hT3.b1; omega, by have := hT3.b2; omega⟩, hb3.out.trans (hb4.mono hs)⟩

set_option maxHeartbeats 400000 in
theorem zafter_at (w : World) (v0 v : Value) (l0 l : List UInt8) (K : Nat) (hK : (steps l).length = K) (hv0 : Inp w v0 l0 w.heap.size) (hv : Inp w v l w.heap.size) (h1 : 1 < w.heap.size) (hT : TabAt 1 Lib.deBruijn64tab w) (hs0 : l0.length ≤ 1048576) (hsm : l.length ≤ 1048576) :
    Calls Tryd.prog 10 #[v0, v] w fun e w' => ∃ g1 g2, e = .returned (.tuple #[.slice (some ⟨g1, 0, none⟩) K K, .slice (some ⟨g2, 0, none⟩) K K]) ∧ Two w' w.heap.size g1 g2 (steps l) ∧ Below w.heap.size w w' := by
  obtain ⟨cs, hz, hzo⟩ := zero41
  have hKl : K ≤ 1048576 := by have := steps_len l hsm; omega
  have hzh : Hid (okl cs.toList 0 = true) := hzo
  have hKh : Hid ((steps l).length = K) := hK
  have hTh : Hid (TabAt 1 Lib.deBruijn64tab w) := hT
  have hvh0 : Hid (Inp w v0 l0 w.heap.size) := hv0
  have hvh : Hid (Inp w v l w.heap.size) := hv
  clear hzo hK hT hv hv0
  go_enter Tryd.func10, Tryd.ntmps10
  go_wp2_with fail
  have hal : Below w.heap.size w (w.alloc (.cells cs 41)) := (Below.refl _ _).alloc (Nat.le_refl _) _
  refine (parse_any _ w.heap.size w.heap.size v0 l0 (idle_new w cs hzh.out _ (Nat.le_refl _)) (by simp) h1 (tab_below hTh.out hal) (hvh0.out.below hal) hs0).mono ?_
  rintro e w2 ⟨rfl, hI2, _, hb2⟩
  have hb3 : Hid (Below w.heap.size w w2) := hal.trans hb2
  have hId : Hid (Idle w2 w.heap.size w.heap.size) := hI2
  clear hal hb2 hI2
  go_wp2_with fail
  refine (parse_any _ w.heap.size w.heap.size v l hId.out hb3.out.size h1 (tab_below hTh.out hb3.out) (hvh.out.below hb3.out) hsm).mono ?_
  rintro e w4 ⟨rfl, _, ⟨sv, hsv, hso⟩, hb5⟩
  have hb4 : Hid (Below w.heap.size w w4) := hb3.out.trans hb5
  clear hb3 hb5 hId
  obtain ⟨E, hE⟩ : ∃ E, Hid (E = w.heap.size) := ⟨_, rfl⟩
  rw [← hE.out] at hsv
  rw [← hE.out]
  have hso' : Hid (w4.ownsRow w.heap.size 47 2 sv (steps l).length (flat (steps l))) := hso
  have hsv' : Hid (w4.cell? ⟨E, 8212, none⟩ = some sv) := hsv
  clear hso hsv
  go_wp2_with fail
  refine (stepsOf_at w4 _ E sv (steps l) K hKh.out hsv'.out hso'.out hKl).mono ?_
  rintro e w3 ⟨g1, g2, rfl, hT3, hb6⟩
  go_wp2
  go_ret2
  have hs := hb4.out.size
  exact ⟨g1, g2, rfl, ⟨hT3.one, hT3.two, by have := hT3.b1; omega, by have := hT3.b2; omega⟩, hb4.out.trans (hb6.mono hs)⟩

end Go.Proofs.Qxb6625871aDoor
