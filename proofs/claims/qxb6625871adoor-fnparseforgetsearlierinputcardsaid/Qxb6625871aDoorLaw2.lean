import Derived.Test.Qxb6625871aDoorLaw1
/-! The walk of FnParseForgetsEarlierInput. -/
namespace Go.Proofs.Qxb6625871aDoor
open Go.RowKit Go.Sort

theorem Rd.keep {w w' : World} {v : Value} {l : List UInt8} (h : Rd w v l) (hb : Below w.heap.size w w') : Rd w' v l := by
  rcases h with h | ⟨b, o, c, rfl, hc⟩
  · exact .inl h
  · exact .inr ⟨b, o, c, rfl, fun i hi => (hb.cell (p := ⟨b, o + i, none⟩) (block_lt_of_cell (hc i hi))).trans (hc i hi)⟩

/-- One step of a tiling. -/
theorem tile_step {l : List UInt8} {pos x y : Nat} {r : List (Nat × Nat)} (h : Tile l pos ((x, y) :: r)) : 1 ≤ x ∧ pos + x ≤ l.length ∧ Tile l (pos + x) r := by
  obtain ⟨hp, ⟨he, ht⟩ | ⟨h4, hg, _, ht⟩⟩ := h
  · injection he with e1 e2
    subst e1 e2
    exact ⟨Nat.le_refl _, by omega, ht⟩
  · have := (good_le hg).1
    simp only at this h4 ht
    exact ⟨by omega, by omega, ht⟩

set_option maxHeartbeats 400000 in
theorem forgets_long (a a2 : Option Addr) (n cap n2 cap2 : Nat) (w : World) (h : 1048576 < n + n2) (hm : n ≤ maxLen) (hm2 : n2 ≤ maxLen) :
    Calls Tryd.prog 4 #[.slice a n cap, .slice a2 n2 cap2] w fun e w' => e = .returned (.bool true) ∧ Below w.heap.size w w' := by
  go_enter Tryd.func4, Tryd.ntmps4
  go_wp2_with (go_at_call 9; refine (bytes2_no a a2 n cap n2 cap2 w h hm hm2).mono ?_; rintro e w' ⟨rfl, rfl⟩)
  go_ret
  exact ⟨rfl, Below.refl _ _⟩

set_option maxHeartbeats 4000000 in
set_option maxRecDepth 100000 in
theorem forgets_short (a a2 : Option Addr) (m cap n cap2 : Nat) (l0 l : List UInt8) (w : World) (hl0 : l0.length = m) (hl : l.length = n) (hk : m + n ≤ 1048576) (hv0 : Rd w (.slice a m cap) l0) (hv : Rd w (.slice a2 n cap2) l) (hT : TabAt 1 Lib.deBruijn64tab w) :
    Calls Tryd.prog 4 #[.slice a m cap, .slice a2 n cap2] w fun e w' => e = .returned (.bool true) ∧ Below w.heap.size w w' := by
  have HL0 : Hid (l0.length = m) := hl0
  have HL : Hid (l.length = n) := hl
  have HV0 : Hid (Rd w (.slice a m cap) l0) := hv0
  have HV : Hid (Rd w (.slice a2 n cap2) l) := hv
  have HT : Hid (TabAt 1 Lib.deBruijn64tab w) := hT
  have h1 : 1 < w.heap.size := tab_lt hT
  clear hl hl0 hv hv0 hT
  obtain ⟨K, hK⟩ : ∃ K, Hid ((steps l).length = K) := ⟨_, rfl⟩
  have hKl : K ≤ 1048576 := by have := steps_len l (by rw [HL.out]; omega); rw [hK.out, HL.out] at this; omega
  have hTile : Hid (Tile l 0 (steps l)) := steps_tile l (by rw [HL.out]; omega)
  go_enter Tryd.func4, Tryd.ntmps4
  go_wp2_with fail
  refine (bytes2_yes a a2 m cap n cap2 w hk).mono ?_
  rintro e w' ⟨rfl, rfl⟩
  go_wp2_with fail
  refine (clone_any (.slice a m cap) l0 m HL0.out (by omega) w' HV0.out).mono ?_
  rintro e w1 ⟨q0, c0, rfl, hI1, hb1⟩
  have hI0 : Hid (Inp w1 (.slice q0 m c0) l0 w1.heap.size) := hI1.here
  have hb : Hid (Below w'.heap.size w' w1) := hb1
  clear hI1 hb1
  go_wp2_with fail
  refine (clone_any (.slice a2 n cap2) l n HL.out (by omega) w1 (HV.out.keep hb.out)).mono ?_
  rintro e w2 ⟨q, c, rfl, hI2, hb2⟩
  have hI : Hid (Inp w2 (.slice q n c) l w2.heap.size) := hI2.here
  have hJ : Hid (Inp w2 (.slice q0 m c0) l0 w2.heap.size) := (hI0.out.below hb2).here
  have hbb : Hid (Below w'.heap.size w' w2) := hb.out.trans (hb2.mono hb.out.size)
  clear hI2 hb2 hI0 hb
  go_wp2_with fail
  refine (zafter_at w2 _ _ l0 l K hK.out hJ.out hI.out (by have := hbb.out.size; omega) (tab_below HT.out hbb.out) (by rw [HL0.out]; omega) (by rw [HL.out]; omega)).mono ?_
  rintro e w3 ⟨g1, g2, rfl, hA', hb3⟩
  have hA : Hid (Two w3 w2.heap.size g1 g2 (steps l)) := hA'
  have hI3 : Hid (Inp w3 (.slice q n c) l w3.heap.size) := (hI.out.below hb3).here
  have hb4 : Hid (Below w'.heap.size w' w3) := hbb.out.trans (hb3.mono hbb.out.size)
  clear hA' hb3 hI hJ hbb
  go_wp2_with fail
  refine (zsteps_at w3 _ l K hK.out hI3.out (by have := hb4.out.size; omega) (tab_below HT.out hb4.out) (by rw [HL.out]; omega)).mono ?_
  rintro e w4 ⟨g3, g4, rfl, hC', hb5⟩
  have hC : Hid (Two w4 w3.heap.size g3 g4 (steps l)) := hC'
  have hA4 : Hid (Two w4 w2.heap.size g1 g2 (steps l)) := hA.out.below hb5
  have hb6 : Hid (Below w'.heap.size w' w4) := hb4.out.trans (hb5.mono hb4.out.size)
  clear hC' hA hb5 hb4 hI3
  generalize hst : steps l = st at hK hTile hC hA4
  clear hst
  have d1 : decide (1048576 < (m : Int)) = false := decide_eq_false (by omega)
  have d2 : decide (1048576 - (m : Int) < (n : Int)) = false := decide_eq_false (by omega)
  go_wp2
  try rw [d1]
  try rw [d2]
  clear d1 d2
  go_loopw [9, 10] (fun pv tv wr => ∃ (pos t : Nat), pv = .int .i64 (pos : Int) ∧ tv = .int .i64 (t : Int) ∧ t ≤ K ∧ pos ≤ n ∧ Hid (Tile l pos (st.drop t)) ∧ Hid (Below w4.heap.size w4 wr)) (fun _ tv _ => K - (intOf tv).toNat)
  case atStart => exact ⟨0, 0, rfl, rfl, Nat.zero_le _, Nat.zero_le _, hTile, Below.refl _ _⟩
  case round =>
    obtain ⟨pos, t, rfl, rfl, htK, hpn, hTl, hB⟩ := hrel
    by_cases hlt : t < K
    · have c1 := (hA4.out.below hB.out).one t (by rw [hK.out]; exact hlt)
      have c2 := (hA4.out.below hB.out).two t (by rw [hK.out]; exact hlt)
      have c3 := (hC.out.below hB.out).one t (by rw [hK.out]; exact hlt)
      have c4 := (hC.out.below hB.out).two t (by rw [hK.out]; exact hlt)
      have hTl' := hTl.out
      rw [drop_at st t (by rw [hK.out]; exact hlt)] at hTl'
      generalize fst_ st t = x at c1 c3 hTl'
      generalize snd_ st t = y at c2 c4 hTl'
      obtain ⟨hx1, hxn, hrest⟩ := tile_step hTl'
      rw [HL.out] at hxn
      have hR : Hid (Tile l (pos + x) (st.drop (t + 1))) := hrest
      have ex : ((x : Int) == (x : Int)) = true := by simp
      have ey : ((y : Int) == (y : Int)) = true := by simp
      clear hrest hTl'
      go_wp2_with fail
      go_quiet (fail)
      have k3 : (wr.drewN nq).cell? ⟨g3, t, none⟩ = some (.int .i32 (x : Int)) := c3
      go_wp2
      go_roundw
      case rel => first | exact ⟨pos + x, t + 1, by go_num, by go_num, by omega, by omega, hR, below_drewN hB.out _⟩ | ((repeat apply Exists.intro); exact ⟨⟨pos + x, t + 1, by go_num, by go_num, by omega, by omega, hR, below_drewN hB.out _⟩, rfl⟩)
      case measure => simp [intOf]; omega
    · have hpe : pos = n := by
        have := hTl.out
        rw [List.drop_eq_nil_of_le (by rw [hK.out]; omega)] at this
        have h2 : pos = l.length := this
        rw [HL.out] at h2; exact h2
      subst hpe
      go_wp2
      go_ret
      exact ⟨ret_bool (by simp), hb6.out.trans (hB.out.mono hb6.out.size)⟩

end Go.Proofs.Qxb6625871aDoor
