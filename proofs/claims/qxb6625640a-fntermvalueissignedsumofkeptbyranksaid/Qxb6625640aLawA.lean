import Derived.Test.Qxb6625640aOwn
/-! The walk of FnTermValueHighestPlusComplementLowestIsAll. -/
namespace Go.Proofs.Qxb6625640a
open Go.RowKit

set_option maxHeartbeats 400000 in
theorem bytesA_ok (s : ByteArray) (c : Int) (neg : Bool) (d sd k : Int) (a : Option Addr) (n cap : Nat) (w : World) (hs : s.size ≤ 65536) (hn : n ≤ 4096) :
    Calls Try.prog 11 #[.string s, .int .i64 c, .bool neg, .int .i64 d, .int .i64 sd, .int .i64 k, .slice a n cap] w fun e w' => e = .returned (.bool true) ∧ w' = w := by
  go_enter Try.func11, Try.ntmps11
  go_wp2
  go_ret
  exact ⟨rfl, rfl⟩

set_option maxHeartbeats 400000 in
theorem bytesA_any (s : ByteArray) (c : Int) (neg : Bool) (d sd k : Int) (a : Option Addr) (n cap : Nat) (w : World) (hs : s.size ≤ maxLen) (hn : n ≤ maxLen) :
    Calls Try.prog 11 #[.string s, .int .i64 c, .bool neg, .int .i64 d, .int .i64 sd, .int .i64 k, .slice a n cap] w fun e w' => ∃ r, e = .returned (.bool r) ∧ w = w' := by
  unfold maxLen at hs hn
  go_enter Try.func11, Try.ntmps11
  go_wp2
  all_goals
    go_ret
    exact ⟨_, rfl, rfl⟩

set_option maxHeartbeats 400000 in
theorem lawA_out (s : ByteArray) (c : Int) (neg : Bool) (d sd k : Int) (a : Option Addr) (n cap : Nat) (w : World) (hs : s.size ≤ maxLen) (hn : n ≤ maxLen)
    (hout : 65536 < s.size ∨ (s.size ≤ 65536 ∧ (4096 < n ∨ (n ≤ 4096 ∧ (k < 0 ∨ (0 ≤ k ∧ (n : Int) < k)))))) :
    Calls Try.prog 4 #[.string s, .int .i64 c, .bool neg, .int .i64 d, .int .i64 sd, .int .i64 k, .slice a n cap] w fun e w' => e = .returned (.bool true) ∧ Below w.heap.size w w' := by
  have hs' := hs
  have hn' := hn
  unfold maxLen at hs' hn'
  rcases hout with h1 | ⟨h1, h2 | ⟨h2, h3 | ⟨h3, h4⟩⟩⟩
  all_goals
    go_enter Try.func4, Try.ntmps4
    go_wp2_with (go_at_call 11; refine (bytesA_any s c neg d sd k a n cap w hs hn).mono ?_; rintro e w' ⟨r, rfl, rfl⟩; cases r)
    all_goals
      go_ret
      exact ⟨rfl, Below.refl _ _⟩

theorem z_hi' (tb B : Nat) (a : Option Addr) (d k : Nat) (l : List Int) (hl : d + k ≤ 1048576) (neg : Bool) (w : World) (ht : TermAt w tb neg 1 k) (htg : blk a ≠ some tb) (h : Own w B a (d + k) l) :
    Calls Try.prog 7 #[.pointer (some ⟨tb, 0, none⟩), .slice a (d + k) (d + k)] w fun e w' => e = .returned (.int .i64 (sg neg ((srt l).drop d))) ∧ Own w' B a (d + k) (srt l) ∧ w.grownBy w' (blk a) := by
  have := z_hi tb B a (d + k) k l hl (by omega) neg w ht htg h
  rwa [show d + k - k = d by omega] at this

theorem z_hiv (tb B : Nat) (a : Option Addr) (d k : Nat) (l : List Int) (hl : d + k ≤ 1048576) (neg : Bool) (r : Int) (hr : sg neg ((srt l).drop d) = r) (w : World) (ht : TermAt w tb neg 1 k) (htg : blk a ≠ some tb) (h : Own w B a (d + k) l) :
    Calls Try.prog 7 #[.pointer (some ⟨tb, 0, none⟩), .slice a (d + k) (d + k)] w fun e w' => e = .returned (.int .i64 r) ∧ Own w' B a (d + k) (srt l) ∧ w.grownBy w' (blk a) := by
  subst hr
  exact z_hi' tb B a d k l hl neg w ht htg h

theorem z_lov (tb B : Nat) (a : Option Addr) (n k : Nat) (l : List Int) (hl : n ≤ 1048576) (hk : k ≤ n) (neg : Bool) (r : Int) (hr : sg neg ((srt l).take k) = r) (w : World) (ht : TermAt w tb neg 2 k) (htg : blk a ≠ some tb) (h : Own w B a n l) :
    Calls Try.prog 7 #[.pointer (some ⟨tb, 0, none⟩), .slice a n n] w fun e w' => e = .returned (.int .i64 r) ∧ Own w' B a n (srt l) ∧ w.grownBy w' (blk a) := by
  subst hr
  exact z_lo tb B a n k l hl hk neg w ht htg h

theorem z_allv (tb : Nat) (v : Value) (l : List Int) (hl : l.length ≤ 1048576) (neg : Bool) (N : Int) (r : Int) (hr : sg neg l = r) (w : World) (ht : TermAt w tb neg 0 N) (hv : Rd w v l) :
    Calls Try.prog 7 #[.pointer (some ⟨tb, 0, none⟩), v] w fun e w' => e = .returned (.int .i64 r) ∧ w = w' := by
  subst hr
  exact z_all tb v l hl neg N w ht hv

set_option maxHeartbeats 2000000 in
theorem lawA_in (s : ByteArray) (c : Int) (neg : Bool) (nd sd : Int) (d k : Nat) (a : Option Addr) (cap : Nat) (l : List Int) (w : World) (hs : s.size ≤ 65536) (hn : d + k ≤ 4096) (hln : l.length = d + k) (hv : Rd w (.slice a (d + k) cap) l) :
    Calls Try.prog 4 #[.string s, .int .i64 c, .bool neg, .int .i64 nd, .int .i64 sd, .int .i64 (k : Int), .slice a (d + k) cap] w fun e w' => e = .returned (.bool true) ∧ Below w.heap.size w w' := by
  have hl : d + k ≤ 1048576 := by omega
  have HN : Hid (l.length = d + k) := hln
  obtain ⟨rH, hrH⟩ : ∃ r, sg neg ((srt l).drop d) = r := ⟨_, rfl⟩
  obtain ⟨rL, hrL⟩ : ∃ r, sg neg ((srt l).take d) = r := ⟨_, rfl⟩
  obtain ⟨rA, hrA⟩ : ∃ r, sg neg l = r := ⟨_, rfl⟩
  have HRH : Hid (sg neg ((srt l).drop d) = rH) := hrH
  have HRL : Hid (sg neg ((srt l).take d) = rL) := hrL
  have HRA : Hid (sg neg l = rA) := hrA
  clear hln hrH hrL hrA
  go_enter Try.func4, Try.ntmps4
  go_wp2_with (go_at_call 11; refine (bytesA_ok s c neg nd sd k a (d + k) cap w hs hn).mono ?_; rintro e w' ⟨rfl, rfl⟩; refine Hid.out ?_)
  refine Lib.hid ?_
  go_wp2_with (go_at_call 6; refine (clone_own _ l (d + k) HN.out hl _ hv).mono ?_; rintro e w1 ⟨a1, rfl, o1, b1⟩; refine Hid.out ?_)
  refine Lib.hid ?_
  have v1 := o1.rd
  go_wp2_with (go_at_call 6; refine (clone_own _ l (d + k) HN.out hl _ v1).mono ?_; rintro e w2 ⟨a2, rfl, o2, b2⟩; refine Hid.out ?_)
  refine Lib.hid ?_
  have v2 := v1.keep b2
  go_wp2_with (go_at_call 6; refine (clone_own _ l (d + k) HN.out hl _ v2).mono ?_; rintro e w3 ⟨a3, rfl, o3, b3⟩; refine Hid.out ?_)
  refine Lib.hid ?_
  have v3 := v2.keep b3
  go_wp2_with (go_at_call 6; refine (clone_own _ l (d + k) HN.out hl _ v3).mono ?_; rintro e w4 ⟨a4, rfl, o4, b4⟩; refine Hid.out ?_)
  refine Lib.hid ?_
  have q1 := (o1.below b2).below b3 |>.below b4
  have q2 := (o2.below b3).below b4
  have q3 := o3.below b4
  have s1 := b1.size
  have s2 := b2.size
  have s3 := b3.size
  have s4 := b4.size
  have HB : Hid (Below w'.heap.size w' w4) := b1.trans ((b2.mono s1).trans ((b3.mono (by omega)).trans (b4.mono (by omega))))
  have p1 := o1.lt
  have p2 := o2.lt
  have p3 := o3.lt
  have p4 := o4.lt
  clear v1 v2 v3 o1 o2 o3 b1 b2 b3 b4 hv
  have t1 := ((term_new w4 s c neg nd sd 1 k).alloc (term s c neg nd sd 2 d)).alloc (term s c neg nd sd 0 k)
  have t2 := (term_new (w4.alloc (term s c neg nd sd 1 k)) s c neg nd sd 2 d).alloc (term s c neg nd sd 0 k)
  have t3 := term_new ((w4.alloc (term s c neg nd sd 1 k)).alloc (term s c neg nd sd 2 d)) s c neg nd sd 0 k
  simp only [World.size_alloc] at t2 t3
  have r1 := ((q1.alloc (term s c neg nd sd 1 k)).alloc (term s c neg nd sd 2 d)).alloc (term s c neg nd sd 0 k)
  have r2 := ((q2.alloc (term s c neg nd sd 1 k)).alloc (term s c neg nd sd 2 d)).alloc (term s c neg nd sd 0 k)
  have r3 := ((q3.alloc (term s c neg nd sd 1 k)).alloc (term s c neg nd sd 2 d)).alloc (term s c neg nd sd 0 k)
  have r4 := ((o4.alloc (term s c neg nd sd 1 k)).alloc (term s c neg nd sd 2 d)).alloc (term s c neg nd sd 0 k)
  have HB5 : Hid (Below w'.heap.size w' (((w4.alloc (term s c neg nd sd 1 k)).alloc (term s c neg nd sd 2 d)).alloc (term s c neg nd sd 0 k))) := ((HB.out.alloc (by omega) _).alloc (by simp; omega) _).alloc (by simp; omega) _
  clear q1 q2 q3 o4 HB
  go_wp2_with fail
  refine (z_hiv w4.heap.size w1.heap.size a2 d k l hl neg rH HRH.out _ t1 ?_ r2).mono ?_
  · intro e; have := p2 _ e; omega
  rintro e w6 ⟨rfl, u2, g6⟩
  have x1 := r1.kept g6 (fun k h1 h2 => by have := p1 _ h1; have := p2 _ h2; omega)
  have x3 := r3.kept g6 (fun k h1 h2 => by have := p3 _ h1; have := p2 _ h2; omega)
  have x4 := r4.kept g6 (fun k h1 h2 => by have := p4 _ h1; have := p2 _ h2; omega)
  have y2 := t2.grown g6 (by intro e; have := p2 _ e; omega)
  have y3 := t3.grown g6 (by intro e; have := p2 _ e; omega)
  have HB6 : Hid (Below w'.heap.size w' w6) := HB5.out.grown g6 (by simp; omega) (fun k h => by have := p2 _ h; omega)
  clear r1 r2 r3 r4 t1 t2 t3 g6 HB5
  go_wp2_with fail
  refine (z_lov (w4.heap.size + 1) w2.heap.size a3 (d + k) d l hl (by omega) neg rL HRL.out _ y2 ?_ x3).mono ?_
  · intro e; have := p3 _ e; omega
  rintro e w7 ⟨rfl, u3, g7⟩
  have z1 := x1.kept g7 (fun k h1 h2 => by have := p1 _ h1; have := p3 _ h2; omega)
  have z2 := u2.kept g7 (fun k h1 h2 => by have := p2 _ h1; have := p3 _ h2; omega)
  have z4 := x4.kept g7 (fun k h1 h2 => by have := p4 _ h1; have := p3 _ h2; omega)
  have y4 := y3.grown g7 (by intro e; have := p3 _ e; omega)
  have HB7 : Hid (Below w'.heap.size w' w7) := HB6.out.grown g7 (by have := HB6.out.size; omega) (fun k h => by have := p3 _ h; omega)
  clear x1 x3 x4 u2 y2 y3 g7 HB6
  go_wp2_with fail
  refine (z_allv (w4.heap.size + 2) _ l (by rw [HN.out]; exact hl) neg k rA HRA.out w7 y4 z4.rd).mono ?_
  rintro e w8 ⟨rfl, rfl⟩
  have hmx : l.length ≤ maxLen := by rw [HN.out]; unfold maxLen; omega
  have hms : (srt l).length ≤ maxLen := by rw [srt_length]; exact hmx
  have hHL : wr (rH + rL) = rA := by
    have := hi_lo neg l k
    rw [show l.length - k = d by rw [HN.out]; omega, HRH.out, HRL.out, HRA.out] at this
    exact this
  have hB : (wrap64 (rH + rL) == rA) = true := by rw [wrap_is, hHL]; simp
  have HSG : Hid (rA = if neg then wr (-(ws l)) else ws l) := HRA.out.symm
  have R1 := z1.rd
  have R2 := z2.rd
  have R3 := u3.rd
  have R4 := z4.rd
  have hform := z1.form
  clear hHL HRH HRL HRA y4 z1 z2 z4 u3 p1 p2 p3 p4 s1 s2 s3 s4
  rcases hform with ⟨rfl, hdk, rfl⟩ | ⟨g, rfl⟩
  · obtain rfl : d = 0 := by omega
    obtain rfl : k = 0 := by omega
    have hA : (rA == 0) = true := by rw [HSG.out]; cases neg <;> decide
    clear hdk HSG hn hl
    go_wp2_with fail
    go_loop [24, 25] (fun t i => i = .int .i64 0 ∧ t = .int .i64 0) (fun _ _ => 0)
    case atStart => exact ⟨rfl, rfl⟩
    case round =>
      obtain ⟨rfl, rfl⟩ := hrel
      cases neg
      all_goals
        go_wp2_with fail
        refine (eq_yes _ _ [] hmx w7 R4 R1).mono ?_
        rintro e w9 ⟨rfl, q, rfl⟩
        go_wp2_with fail
        refine (eq_yes _ _ (srt []) hms _ (R2.drewN q) (R3.drewN q)).mono ?_
        rintro e w10 ⟨rfl, q2, rfl⟩
        go_wp2
        go_ret
        exact ⟨rfl, below_drewN HB7.out _⟩
  · have hc : ∀ i, i < d + k → w7.cell? ⟨g, i, none⟩ = some (.int .i64 (l.getD i 0)) := by
      rcases R1 with ⟨_, a, c, hv⟩ | ⟨b, o, c, hv, hc⟩
      · simp only [Value.slice.injEq] at hv
        intro i hi; omega
      · simp only [Value.slice.injEq, Option.some.injEq, Addr.mk.injEq, and_true] at hv
        obtain ⟨⟨rfl, rfl⟩, h2, rfl⟩ := hv
        intro i hi
        have := hc i (by omega)
        rwa [Nat.zero_add] at this
    go_wp2_with fail
    go_loop [24, 25] (fun t i => ∃ j : Nat, j ≤ d + k ∧ i = .int .i64 j ∧ t = .int .i64 (ws (l.take j))) (fun _ i => d + k - (intOf i).toNat)
    case atStart => exact ⟨0, Nat.zero_le _, rfl, by rw [List.take_zero, ws_nil]⟩
    case round =>
      obtain ⟨j, hj, rfl, rfl⟩ := hrel
      by_cases hlt : j < d + k
      · have cj := hc j hlt
        have HS : Hid (wr (ws (l.take j) + l.getD j 0) = ws (l.take (j + 1))) := ws_step l (d + k) j HN.out hlt
        clear hc
        go_wp2
        go_round
        case rel => exact ⟨j + 1, by omega, by go_num, by rw [← HS.out]; simp [wrap_is]⟩
        case measure => simp [intOf]; omega
      · have HE : Hid (l.take j = l) := List.take_of_length_le (by rw [HN.out]; omega)
        have HJ : Hid (j = d + k) := by show _ = _; omega
        have hA : (rA == if neg then wrap64 (-(ws (l.take j))) else ws (l.take j)) = true := by
          rw [HE.out, wrap_is, HSG.out]; simp
        clear hc
        cases neg
        all_goals
          simp only [Bool.false_eq_true, if_false, if_true] at hA
          go_wp2_with fail
          refine (eq_yes _ _ l hmx w7 R4 R1).mono ?_
          rintro e w9 ⟨rfl, q, rfl⟩
          go_wp2_with fail
          refine (eq_yes _ _ (srt l) hms _ (R2.drewN q) (R3.drewN q)).mono ?_
          rintro e w10 ⟨rfl, q2, rfl⟩
          go_wp2
          go_ret
          exact ⟨rfl, below_drewN HB7.out _⟩

end Go.Proofs.Qxb6625640a
