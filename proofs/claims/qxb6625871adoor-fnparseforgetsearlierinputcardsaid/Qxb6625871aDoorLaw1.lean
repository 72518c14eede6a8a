import Derived.Test.Qxb6625871aDoorRec
/-! The walk of FnParseTilesSrcWithTrueCopies. -/
namespace Go.Proofs.Qxb6625871aDoor
open Go.RowKit Go.Sort

theorem Inp.here {w : World} {v : Value} {l : List UInt8} {B : Nat} (h : Inp w v l B) : Inp w v l w.heap.size := by
  obtain ⟨q, c, rfl, h⟩ := h
  refine ⟨q, c, rfl, fun hn => ?_⟩
  obtain ⟨b, h1, h2, h3, h4⟩ := h hn
  exact ⟨b, h1, h2, block_lt_of_cell (h4 0 hn), h4⟩

theorem drop_at (st : List (Nat × Nat)) (t : Nat) (h : t < st.length) : st.drop t = (fst_ st t, snd_ st t) :: st.drop (t + 1) := by
  have e : st.getD t (0, 0) = st[t] := by simp [h]
  unfold fst_ snd_
  rw [e]
  exact List.drop_eq_getElem_cons h
theorem take_at (st : List (Nat × Nat)) (t : Nat) (h : t < st.length) : st.take (t + 1) = st.take t ++ [(fst_ st t, snd_ st t)] := by
  have e : st.getD t (0, 0) = st[t] := by simp [h]
  unfold fst_ snd_
  rw [e, List.take_add_one, List.getElem?_eq_getElem h]
  rfl

theorem Two.below {w w' : World} {B g1 g2 : Nat} {st : List (Nat × Nat)} (h : Two w B g1 g2 st) (hb : Below w.heap.size w w') : Two w' B g1 g2 st :=
  ⟨fun t ht => (hb.cell (p := ⟨g1, t, none⟩) (block_lt_of_cell (h.one t ht))).trans (h.one t ht), fun t ht => (hb.cell (p := ⟨g2, t, none⟩) (block_lt_of_cell (h.two t ht))).trans (h.two t ht), h.b1, h.b2⟩

set_option maxHeartbeats 400000 in
theorem tiles_long (a : Option Addr) (n cap : Nat) (w : World) (h : 1048576 < n) (hm : n ≤ maxLen) :
    Calls Tryd.prog 3 #[.slice a n cap] w fun e w' => e = .returned (.bool true) ∧ Below w.heap.size w w' := by
  go_enter Tryd.func3, Tryd.ntmps3
  go_wp2_with (go_at_call 5; refine (bytes1_no a n cap w h hm).mono ?_; rintro e w' ⟨rfl, rfl⟩)
  go_ret
  exact ⟨rfl, Below.refl _ _⟩

set_option maxHeartbeats 4000000 in
set_option maxRecDepth 100000 in
theorem tiles_short (a : Option Addr) (n cap : Nat) (l : List UInt8) (w : World) (hl : l.length = n) (hk : n ≤ 1048576) (hv : Rd w (.slice a n cap) l) (hT : TabAt 1 Lib.deBruijn64tab w) :
    Calls Tryd.prog 3 #[.slice a n cap] w fun e w' => e = .returned (.bool true) ∧ Below w.heap.size w w' := by
  have HL : Hid (l.length = n) := hl
  have HV : Hid (Rd w (.slice a n cap) l) := hv
  have HT : Hid (TabAt 1 Lib.deBruijn64tab w) := hT
  have h1 : 1 < w.heap.size := tab_lt hT
  clear hl hv hT
  obtain ⟨K, hK⟩ : ∃ K, Hid ((steps l).length = K) := ⟨_, rfl⟩
  have hKl : K ≤ 1048576 := by have := steps_len l (by rw [HL.out]; exact hk); rw [hK.out, HL.out] at this; omega
  have hTile : Hid (Tile l 0 (steps l)) := steps_tile l (by rw [HL.out]; exact hk)
  have hMat : Hid (∀ i t, i + 4 ≤ l.length → t < i → i - t ≤ 8 → (∀ k, k < 4 → bt l (t + k) = bt l (i + k)) → ∃ s ∈ steps l, 4 ≤ s.1) := fun i t h4 h5 h6 h7 => steps_match l i t h4 h5 h6 h7
  go_enter Tryd.func3, Tryd.ntmps3
  go_wp2_with fail
  refine (bytes1_yes a n cap w hk).mono ?_
  rintro e w' ⟨rfl, rfl⟩
  go_wp2_with fail
  refine (clone_any (.slice a n cap) l n HL.out hk w' HV.out).mono ?_
  rintro e w1 ⟨q, c, rfl, hI1, hb1⟩
  have hI : Hid (Inp w1 (.slice q n c) l w1.heap.size) := hI1.here
  have hb : Hid (Below w'.heap.size w' w1) := hb1
  clear hI1 hb1
  go_wp2_with fail
  refine (zsteps_at w1 _ l K hK.out hI.out (by have := hb.out.size; omega) (tab_below HT.out hb.out) (by rw [HL.out]; exact hk)).mono ?_
  rintro e w2 ⟨g1, g2, rfl, hT2', hb2⟩
  have hb3 : Hid (Below w'.heap.size w' w2) := hb.out.trans (hb2.mono hb.out.size)
  have hI2 : Hid (Inp w2 (.slice q n c) l w1.heap.size) := hI.out.below hb2
  have hT2 : Hid (Two w2 w1.heap.size g1 g2 (steps l)) := hT2'
  clear hT2' hb2 hI hb
  have hV2 : Hid (0 < n → ∃ b, q = some ⟨b, 0, none⟩ ∧ n ≤ c ∧ Src w2 b l) := by
    intro hn
    obtain ⟨q', c', e, h⟩ := hI2.out
    rw [HL.out] at e h
    injection e with e1 e2 e3
    subst e1 e3
    obtain ⟨b, h1, h2, _, h4⟩ := h hn
    exact ⟨b, h1, h2, h4⟩
  clear hI2
  generalize hst : steps l = st at hK hTile hMat hT2
  clear hst
  have d7 : decide (1048576 < (n : Int)) = false := decide_eq_false (by omega)
  go_wp2
  try rw [d7]
  clear d7
  go_loopw [6, 7, 8] (fun pv cv tv wr => ∃ (pos cnt t : Nat), pv = .int .i64 (pos : Int) ∧ cv = .int .i64 (cnt : Int) ∧ tv = .int .i64 (t : Int) ∧ t ≤ K ∧ pos ≤ n ∧ cnt ≤ t ∧ Hid (Tile l pos (st.drop t)) ∧ Hid (cnt = 0 → ∀ s ∈ st.take t, s.1 < 4) ∧ Hid (Below w2.heap.size w2 wr)) (fun _ _ tv _ => K - (intOf tv).toNat)
  case atStart => exact ⟨0, 0, 0, rfl, rfl, rfl, Nat.zero_le _, Nat.zero_le _, Nat.le_refl _, hTile, fun _ s hs => by simp at hs, Below.refl _ _⟩
  case round =>
    obtain ⟨pos, cnt, t, rfl, rfl, rfl, htK, hpn, hct, hTl, hCn, hB⟩ := hrel
    by_cases hlt : t < K
    · have c1 := (hT2.out.below hB.out).one t (by rw [hK.out]; exact hlt)
      have c2 := (hT2.out.below hB.out).two t (by rw [hK.out]; exact hlt)
      have hTl' := hTl.out
      rw [drop_at st t (by rw [hK.out]; exact hlt)] at hTl'
      have hCt : Hid (st.take (t + 1) = st.take t ++ [(fst_ st t, snd_ st t)]) := take_at st t (by rw [hK.out]; exact hlt)
      generalize fst_ st t = x at c1 hTl' hCt
      generalize snd_ st t = y at c2 hTl' hCt
      obtain ⟨hpl, hcase⟩ := hTl'
      rw [HL.out] at hpl
      rcases hcase with ⟨he, hrest⟩ | ⟨h4, hg, hfar, hrest⟩
      · injection he with e1 e2
        subst e1 e2
        have hR : Hid (Tile l (pos + 1) (st.drop (t + 1))) := hrest
        clear hrest
        go_wp2
        go_roundw
        case rel =>
          refine ⟨pos + 1, cnt, t + 1, by go_num, rfl, by go_num, by omega, by omega, by omega, hR, fun h s hs => ?_, hB⟩
          rw [hCt.out] at hs
          rcases List.mem_append.1 hs with h1 | h1
          · exact hCn.out h s h1
          · simp at h1; rw [h1]; decide
        case measure => simp [intOf]; omega
      · have hR : Hid (Tile l (pos + x) (st.drop (t + 1))) := hrest
        have hg' : 1 ≤ y ∧ y ≤ pos ∧ x ≤ l.length - pos ∧ ∀ u, u < x → bt l (pos + u) = bt l (pos - y + u) := by
          rcases hg with h0 | hg
          · injection h0 with h0 _; omega
          · exact ⟨hg.2.1, hg.2.2.1, hg.2.2.2.1, hg.2.2.2.2⟩
        obtain ⟨hy1, hyp, hxn, hsame⟩ := hg'
        rw [HL.out] at hxn
        have hS : Hid (∀ u, u < x → bt l (pos + u) = bt l (pos - y + u)) := hsame
        clear hsame hrest hg
        obtain ⟨b, rfl, hnc, hs2⟩ := hV2.out (by omega)
        have hs : Hid (Src w2 b l) := hs2
        clear hs2
        obtain ⟨r, hr⟩ : ∃ r, pos = r + y := ⟨pos - y, by omega⟩
        have hsub : (pos : Int) - y = (r : Int) := by omega
        have hsub2 : Hid (pos - y = r) := by show _ = _; omega
        have e1 : ((x : Int) == 1) = false := by simp; omega
        have hx1 : ¬ (x < 4) := by omega
        have hxx : ¬ ((n : Int) - pos < x) := by omega
        have h4c : (((x : Int) == 4) = true ∧ y < 2048) ∨ (((x : Int) == 4) = false ∧ True) := by
          by_cases h : x = 4
          · exact .inl ⟨by rw [h]; rfl, hfar h⟩
          · exact .inr ⟨by simp; omega, trivial⟩
        clear hfar hr
        have d1 : decide ((t : Int) < (K : Int)) = true := decide_eq_true (by omega)
        have d2 : decide ((n : Int) ≤ (pos : Int)) = false := decide_eq_false (by omega)
        have d3 : decide ((x : Int) < 4) = false := decide_eq_false (by omega)
        have d4 : decide ((y : Int) < 1) = false := decide_eq_false (by omega)
        have d5 : decide ((pos : Int) < (y : Int)) = false := decide_eq_false (by omega)
        have d6 : decide ((n : Int) - pos < (x : Int)) = false := decide_eq_false (by omega)
        rcases h4c with ⟨e4, hy4⟩ | ⟨e4, hy4⟩
        · have d8 : decide (2048 ≤ (y : Int)) = false := decide_eq_false (by omega)
          go_wp2
          try rw [d8]
          clear d8
          try rw [d1]
          try rw [d2]
          try rw [d3]
          try rw [d4]
          try rw [d5]
          try rw [d6]
          try rw [e1]
          try rw [e4]
          clear d1 d2 d3 d4 d5 d6
          obtain ⟨wo, rfl⟩ : ∃ wo : World, wo = wr := ⟨_, rfl⟩
          have hBo : Hid (Below w2.heap.size w2 wo) := hB
          clear hB c1 c2
          go_loopw [11] (fun uv wr => ∃ u : Nat, uv = .int .i64 (u : Int) ∧ u ≤ x ∧ Hid (Below w2.heap.size w2 wr)) (fun uv _ => x - (intOf uv).toNat)
          case atStart => exact ⟨0, rfl, Nat.zero_le _, hBo⟩
          case round =>
            clear hBo
            obtain ⟨u, rfl, hux, hB⟩ := hrel
            by_cases hult : u < x
            · have p1 := (hs.out.below hB.out) (pos + u) (by rw [HL.out]; omega)
              have p2 := (hs.out.below hB.out) (r + u) (by rw [HL.out]; omega)
              have heq := hS.out u hult
              rw [hsub2.out] at heq
              have he : (((bt l (pos + u)).toNat : Int) == ((bt l (r + u)).toNat : Int)) = true := by rw [heq]; simp
              clear heq
              go_wp2_with fail
              go_quiet (fail)
              go_wp2
              go_roundw
              case rel => first | exact ⟨u + 1, by go_num, by omega, below_drewN hB.out _⟩ | ((repeat apply Exists.intro); exact ⟨⟨u + 1, by go_num, by omega, below_drewN hB.out _⟩, rfl⟩)
              case measure => simp [intOf]; omega
            · go_wp2
              go_roundw
              case rel => first | exact ⟨pos + x, cnt + 1, t + 1, by go_num, by go_num, by go_num, by omega, by omega, by omega, hR, fun h => by omega, hB⟩ | ((repeat apply Exists.intro); exact ⟨⟨pos + x, cnt + 1, t + 1, by go_num, by go_num, by go_num, by omega, by omega, by omega, hR, fun h => by omega, hB⟩, rfl⟩)
              case measure => simp [intOf]; omega
        · go_wp2
          try rw [d1]
          try rw [d2]
          try rw [d3]
          try rw [d4]
          try rw [d5]
          try rw [d6]
          try rw [e1]
          try rw [e4]
          clear d1 d2 d3 d4 d5 d6
          obtain ⟨wo, rfl⟩ : ∃ wo : World, wo = wr := ⟨_, rfl⟩
          have hBo : Hid (Below w2.heap.size w2 wo) := hB
          clear hB c1 c2
          go_loopw [11] (fun uv wr => ∃ u : Nat, uv = .int .i64 (u : Int) ∧ u ≤ x ∧ Hid (Below w2.heap.size w2 wr)) (fun uv _ => x - (intOf uv).toNat)
          case atStart => exact ⟨0, rfl, Nat.zero_le _, hBo⟩
          case round =>
            clear hBo
            obtain ⟨u, rfl, hux, hB⟩ := hrel
            by_cases hult : u < x
            · have p1 := (hs.out.below hB.out) (pos + u) (by rw [HL.out]; omega)
              have p2 := (hs.out.below hB.out) (r + u) (by rw [HL.out]; omega)
              have heq := hS.out u hult
              rw [hsub2.out] at heq
              have he : (((bt l (pos + u)).toNat : Int) == ((bt l (r + u)).toNat : Int)) = true := by rw [heq]; simp
              clear heq
              go_wp2_with fail
              go_quiet (fail)
              go_wp2
              go_roundw
              case rel => first | exact ⟨u + 1, by go_num, by omega, below_drewN hB.out _⟩ | ((repeat apply Exists.intro); exact ⟨⟨u + 1, by go_num, by omega, below_drewN hB.out _⟩, rfl⟩)
              case measure => simp [intOf]; omega
            · go_wp2
              go_roundw
              case rel => first | exact ⟨pos + x, cnt + 1, t + 1, by go_num, by go_num, by go_num, by omega, by omega, by omega, hR, fun h => by omega, hB⟩ | ((repeat apply Exists.intro); exact ⟨⟨pos + x, cnt + 1, t + 1, by go_num, by go_num, by go_num, by omega, by omega, by omega, hR, fun h => by omega, hB⟩, rfl⟩)
              case measure => simp [intOf]; omega
    · have hpe : pos = n := by
        have := hTl.out
        rw [List.drop_eq_nil_of_le (by rw [hK.out]; omega)] at this
        have h2 : pos = l.length := this
        rw [HL.out] at h2; exact h2
      have htk : st.take t = st := List.take_of_length_le (by rw [hK.out]; omega)
      by_cases hc0 : cnt = 0
      · have hall : Hid (∀ s ∈ st, s.1 < 4) := by
          have := hCn.out hc0
          rwa [htk] at this
        subst hc0 hpe
        go_wp2_with fail
        refine (recurs_at q _ c l wr HL.out hk ?_).mono ?_
        · intro hn
          obtain ⟨b, h1, h2, h3⟩ := hV2.out hn
          exact ⟨b, h1, h2, h3.below hB.out⟩
        rintro e w9 ⟨r, rfl, hr, hb9⟩
        obtain rfl : r = false := by
          cases r with
          | false => rfl
          | true =>
            obtain ⟨i, t, k1, k2, k3, k4⟩ := hr rfl
            obtain ⟨s, hs, h4⟩ := hMat.out i t k1 k2 k3 k4
            have := hall.out s hs
            omega
        go_wp2
        go_ret
        exact ⟨rfl, hb3.out.trans ((hB.out.trans (hb9.mono hB.out.size)).mono hb3.out.size)⟩
      · subst hpe
        have hc : ((cnt : Int) == 0) = false := by simp; omega
        go_wp2
        go_ret
        exact ⟨rfl, hb3.out.trans (hB.out.mono hb3.out.size)⟩

end Go.Proofs.Qxb6625871aDoor
