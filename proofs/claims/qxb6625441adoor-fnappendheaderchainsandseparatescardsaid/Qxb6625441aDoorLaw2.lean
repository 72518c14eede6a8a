import Derived.Test.Qxb6625441aDoorFull
/-! The walk of FnAppendHeaderChainsAndSeparates. -/
namespace Go.Proofs.Qxb6625441aDoor
open Go.RowKit Go.Lib

set_option maxHeartbeats 400000 in
theorem bytes2_ok (a : Option Addr) (len cap : Nat) (t n t2 n2 : Int) (w : World) (h : len ≤ 1048576) :
    Calls Tryd.prog 10 #[.slice a len cap, .int .u8 t, .int .i64 n, .int .u8 t2, .int .i64 n2] w fun e w' => e = .returned (.bool true) ∧ w' = w := by
  go_enter Tryd.func10, Tryd.ntmps10
  go_wp2
  go_ret
  exact ⟨rfl, rfl⟩

set_option maxHeartbeats 400000 in
theorem bytes2_no (a : Option Addr) (len cap : Nat) (t n t2 n2 : Int) (w : World) (h : 1048576 < len) (hm : len ≤ maxLen) :
    Calls Tryd.prog 10 #[.slice a len cap, .int .u8 t, .int .i64 n, .int .u8 t2, .int .i64 n2] w fun e w' => e = .returned (.bool false) ∧ w' = w := by
  unfold maxLen at hm
  go_enter Tryd.func10, Tryd.ntmps10
  go_wp2
  go_ret
  exact ⟨rfl, rfl⟩

set_option maxHeartbeats 400000 in
theorem law2_long (a : Option Addr) (len cap : Nat) (t n t2 n2 : Int) (w : World) (h : 1048576 < len) (hm : len ≤ maxLen) :
    Calls Tryd.prog 4 #[.slice a len cap, .int .u8 t, .int .i64 n, .int .u8 t2, .int .i64 n2] w fun e w' => e = .returned (.bool true) ∧ Below w.heap.size w w' := by
  go_enter Tryd.func4, Tryd.ntmps4
  go_wp2_with (go_at_call 10; refine (bytes2_no a len cap t n t2 n2 w h hm).mono ?_; rintro e w' ⟨rfl, rfl⟩)
  go_ret
  exact ⟨rfl, Below.refl _ _⟩

/-- What lies in the middle. -/
theorem rd_mid {w : World} {b c : Nat} {xs ys zs : List UInt8} {k N : Nat} (h : Rd w (.slice (some ⟨b, 0, none⟩) N c) (xs ++ ys ++ zs)) (hN : (xs ++ ys ++ zs).length = N) (hk : xs.length = k) (hp : 0 < N) (c' m : Nat) (hm : ys.length = m) :
    Rd w (.slice (some ⟨b, k, none⟩) m c') ys := by
  subst hk; subst hm
  rcases h with ⟨h, _⟩ | ⟨b', o', c2, hv, hc⟩
  · rw [h] at hN; simp at hN; omega
  · simp only [Value.slice.injEq, Option.some.injEq, Addr.mk.injEq, and_true] at hv
    obtain ⟨⟨rfl, rfl⟩, -, rfl⟩ := hv
    refine .inr ⟨_, _, c', rfl, fun i hi => ?_⟩
    have := hc (xs.length + i) (by simp; omega)
    rw [Nat.zero_add] at this
    rw [this, getD_at _ _ hi, getD_at _ _ (by simp; omega), List.getElem_append_left (by simp; omega), List.getElem_append_right (by omega)]
    simp

/-- The test 'zzEqual(h1, h2) != (t1 == t2 && n1 == n2)' says false. -/
theorem sep_eq (t1 t2 : UInt8) (n1 n2 : Int) : decide (hdr t1 n1 = hdr t2 n2) = (((t1.toNat : Int) == (t2.toNat : Int)) && (n1 == n2)) := by
  rw [Bool.eq_iff_iff]
  simp only [decide_eq_true_eq, hdr_inj, Bool.and_eq_true, beq_iff_eq, Int.natCast_inj]
  rw [UInt8.toNat_inj]

theorem eq_val (va vb : Value) (xs ys : List UInt8) (hm : ys.length ≤ maxLen) (w : World) (ha : Rd w va xs) (hb : Rd w vb ys) (r : Bool) (hr : decide (xs = ys) = r) :
    Calls Tryd.prog 9 #[va, vb] w fun e w' => e = .returned (.bool r) ∧ ∃ q, w' = w.drewN q := by
  subst hr
  exact eq_any va vb xs ys hm w ha hb

theorem width_is (n : Int) (w : World) (h0 : -9223372036854775808 ≤ n) (h1 : n ≤ 9223372036854775807) (M : Nat) (hM : (itoa n).length = M) :
    Calls Tryd.prog 11 #[.int .i64 n] w fun e w' => e = .returned (.int .i64 (M : Int)) ∧ w = w' := by
  subst hM
  exact (width_any n w h0 h1).mono fun e w' ⟨he, hw⟩ => ⟨he, hw.symm⟩

set_option maxHeartbeats 1000000 in
theorem law2_short (a : Option Addr) (k cap : Nat) (l : List UInt8) (t1 t2 : UInt8) (n1 n2 : Int) (h0 : -9223372036854775808 ≤ n1) (h1 : n1 ≤ 9223372036854775807) (h2 : -9223372036854775808 ≤ n2) (h3 : n2 ≤ 9223372036854775807) (w : World) (hl : l.length = k) (hk : k ≤ 1048576)
    (hv : Rd w (.slice a k cap) l) (hT : Lib.TabIs Tryd.prog w "internal/strconv.uint64pow10" .u64 Lib.pow10Tab) :
    Calls Tryd.prog 4 #[.slice a k cap, .int .u8 (t1.toNat : Int), .int .i64 n1, .int .u8 (t2.toNat : Int), .int .i64 n2] w fun e w' => e = .returned (.bool true) ∧ Below w.heap.size w w' := by
  have hT0 := Lib.tabBelow_of_tabIs hT
  obtain ⟨H, hH⟩ : ∃ H, (hdr t1 n1).length = H := ⟨_, rfl⟩
  obtain ⟨J, hJ⟩ : ∃ J, (hdr t2 n2).length = J := ⟨_, rfl⟩
  obtain ⟨M, hM⟩ : ∃ M, (itoa n1).length = M := ⟨_, rfl⟩
  have ln := Lib.itoa_length_le n1 h0 h1
  have ln2 := Lib.itoa_length_le n2 h2 h3
  have hHM : H = M + 3 := by rw [← hH, hdr_length, hM]
  have hHb : H ≤ 24 ∧ 3 ≤ H := by rw [← hH, hdr_length]; omega
  have hJb : J ≤ 24 ∧ 3 ≤ J := by rw [← hJ, hdr_length]; omega
  obtain ⟨hH1, hH2⟩ := hHb
  obtain ⟨hJ1, hJ2⟩ := hJb
  have hN : (l ++ hdr t1 n1).length = k + H := by simp [hl, hH]
  have hN2 : (l ++ hdr t1 n1 ++ hdr t2 n2).length = k + H + J := by simp [hl, hH, hJ]; omega
  have HH : Hid ((hdr t1 n1).length = H) := hH
  have HJ : Hid ((hdr t2 n2).length = J) := hJ
  have HM : Hid ((itoa n1).length = M) := hM
  have hHM1 : H ≤ M + 3 := by omega
  have hHM2 : M + 3 ≤ H := by omega
  have HL : Hid (l.length = k) := hl
  have HN : Hid ((l ++ hdr t1 n1).length = k + H) := hN
  have HN2 : Hid ((l ++ hdr t1 n1 ++ hdr t2 n2).length = k + H + J) := hN2
  have hMb : M ≤ 21 := by omega
  clear hH hJ hl hN hN2 hM hHM ln ln2
  have hlim : l.length ≤ 1073741824 := by rw [HL.out]; omega
  have hlim2 : (l ++ hdr t1 n1).length ≤ 1073741824 := by rw [HN.out]; omega
  go_enter Tryd.func4, Tryd.ntmps4
  go_wp2_with (go_at_call 10; refine (bytes2_ok a k cap _ n1 _ n2 w hk).mono ?_; rintro e w' ⟨rfl, rfl⟩; refine Hid.out ?_)
  refine Lib.hid ?_
  go_wp2_with (go_at_call 6; refine (clone_is _ l (by rw [HL.out]; exact hk) k HL.out _ hv).mono ?_; rintro e w1 ⟨a1, c1, rfl, -, ho1, hb1⟩; refine Hid.out ?_)
  refine Lib.hid ?_
  have hv1 : Rd w1 (.slice a k cap) l := hv.keep hb1
  go_wp2_with (go_at_call 6; refine (clone_full _ l (by rw [HL.out]; exact hk) k HL.out _ hv1).mono ?_; rintro e w2 ⟨a2, rfl, ho2, hb2⟩; refine Hid.out ?_)
  refine Lib.hid ?_
  have s1 := hb1.size
  have s2 := hb2.size
  have bA := hb1.trans (hb2.mono s1)
  have hT2 : Lib.TabBelow Tryd.prog w2.heap.size w2 "internal/strconv.uint64pow10" .u64 Lib.pow10Tab := tab_mono (hT0.on bA) (by omega)
  have HNH : Hid (([] ++ hdr t1 n1).length = H) := HH.out
  have HNJ : Hid (([] ++ hdr t2 n2).length = J) := HJ.out
  go_wp2_with (go_at_call 7; refine (hdr_is w2.heap.size _ [] t1 n1 h0 h1 H HNH.out w2 (World.ownsRow_nil _ _ _ _) (Nat.le_refl _) (by simp) hT2).mono ?_; rintro e w3 ⟨g3, c3, rfl, hc3, hg3, hg3', ho3, hb3⟩; refine Hid.out ?_)
  refine Lib.hid ?_
  have s3 := hb3.size
  have bB := bA.trans (hb3.mono (by omega))
  have hT3 : Lib.TabBelow Tryd.prog w3.heap.size w3 "internal/strconv.uint64pow10" .u64 Lib.pow10Tab := tab_mono (hT0.on bB) (by omega)
  go_wp2_with (go_at_call 7; refine (hdr_is w3.heap.size _ [] t2 n2 h2 h3 J HNJ.out w3 (World.ownsRow_nil _ _ _ _) (Nat.le_refl _) (by simp) hT3).mono ?_; rintro e w4 ⟨g4, c4, rfl, hc4, hg4, hg4', ho4, hb4⟩; refine Hid.out ?_)
  refine Lib.hid ?_
  have s4 := hb4.size
  have bC := bB.trans (hb4.mono (by omega))
  have hT4 : Lib.TabBelow Tryd.prog w4.heap.size w4 "internal/strconv.uint64pow10" .u64 Lib.pow10Tab := tab_mono (hT0.on bC) (by omega)
  have ho24 : w4.ownsRow w1.heap.size 5 1 (.slice a2 k k) l.length (byteCells l) := own_below (own_below ho2 hb3) hb4
  have hfull : ∃ a, Value.slice a2 k k = .slice a l.length l.length := ⟨a2, by rw [HL.out]⟩
  go_wp2_with (go_at_call 7; refine (zhdr_full w1.heap.size _ l t1 n1 h0 h1 (k + H) HN.out w4 ho24 hfull hlim hT4).mono ?_; rintro e w5 ⟨g5, c5, rfl, hc5, ho5, hb5⟩; refine Hid.out ?_)
  refine Lib.hid ?_
  have s5 := hb5.size
  have bD := bC.trans (hb5.mono (by omega))
  have hT5 : Lib.TabBelow Tryd.prog w4.heap.size w5 "internal/strconv.uint64pow10" .u64 Lib.pow10Tab := tab_mono (hT0.on bD) (by omega)
  go_wp2_with (go_at_call 7; refine (hdr_is w4.heap.size _ (l ++ hdr t1 n1) t2 n2 h2 h3 (k + H + J) HN2.out w5 ho5 s5 hlim2 hT5).mono ?_; rintro e w6 ⟨g6, c6, rfl, hc6, hg6, hg6', ho6, hb6⟩; refine Hid.out ?_)
  refine Lib.hid ?_
  have s6 := hb6.size
  go_wp2_with (go_at_call 11; refine (width_is n1 w6 h0 h1 M HM.out).mono ?_; rintro e w' ⟨rfl, rfl⟩; refine Hid.out ?_)
  refine Lib.hid ?_
  have hmh : (hdr t1 n1).length ≤ maxLen := by rw [HH.out]; unfold maxLen; omega
  have hmj : (hdr t2 n2).length ≤ maxLen := by rw [HJ.out]; unfold maxLen; omega
  have hm : l.length ≤ maxLen := by rw [HL.out]; unfold maxLen; omega
  have b46 : Below w4.heap.size w4 w6 := hb5.trans hb6
  have b36 : Below w3.heap.size w3 w6 := hb4.trans (b46.mono s4)
  have b16 : Below w1.heap.size w1 w6 := hb2.trans ((hb3.mono s2).trans (b36.mono (by omega)))
  have r1 : Rd w6 (.slice a1 k c1) l := by
    have : Rd w1 (.slice a1 k c1) l := Rd.of_own ho1
    exact this.below (fun x hx => (ho1.lt x hx).2) b16
  have r3 : Rd w6 (.slice (some ⟨g3, 0, none⟩) H c3) (hdr t1 n1) := by
    have : Rd w3 (.slice (some ⟨g3, 0, none⟩) H c3) (hdr t1 n1) := Rd.of_own ho3
    exact this.below (fun x hx => (ho3.lt x hx).2) b36
  have r4 : Rd w6 (.slice (some ⟨g4, 0, none⟩) J c4) (hdr t2 n2) := by
    have : Rd w4 (.slice (some ⟨g4, 0, none⟩) J c4) (hdr t2 n2) := Rd.of_own ho4
    exact this.below (fun x hx => (ho4.lt x hx).2) b46
  have r6 : Rd w6 (.slice (some ⟨g6, 0, none⟩) (k + H + J) c6) (l ++ hdr t1 n1 ++ hdr t2 n2) := Rd.of_own ho6
  have r6' : Rd w6 (.slice (some ⟨g6, 0, none⟩) (k + H + J) c6) (l ++ (hdr t1 n1 ++ hdr t2 n2)) := by rw [← List.append_assoc]; exact r6
  have r7 := rd_take r6' (by rw [← List.append_assoc]; exact HN2.out) HL.out (by omega) c6
  have r8 := rd_mid r6 HN2.out HL.out (by omega) (c6 - k) H HH.out
  have r9 := rd_drop r6 HN2.out HN.out (by omega) (c6 - (k + H)) J HJ.out
  have HF : Hid (Below w'.heap.size w' w6) := bD.trans (hb6.mono (by omega))
  have HS := sep_eq t1 t2 n1 n2
  obtain ⟨x, hx⟩ : ∃ x, ((t1.toNat : Int) == (t2.toNat : Int)) = x := ⟨_, rfl⟩
  obtain ⟨y, hy⟩ : ∃ y, (n1 == n2) = y := ⟨_, rfl⟩
  rw [hx, hy] at HS
  have HS' : Hid (decide (hdr t1 n1 = hdr t2 n2) = (x && y)) := HS
  clear HS
  clear hT0 hT2 hT3 hT4 hT5 ho1 ho2 ho3 ho4 ho5 ho6 ho24 bA bB bC bD hb1 hb2 hb3 hb4 hb5 hb6 b46 b36 b16 hv hv1 hfull
  cases x <;> cases y
  all_goals
    go_wp2_with fail
    refine (eq_val _ _ _ _ hmj _ r3 r4 _ HS'.out).mono ?_
    rintro e w7 ⟨rfl, q, rfl⟩
    go_wp2_with fail
    refine (eq_yes _ _ l hm _ (r7.drewN q) (r1.drewN q)).mono ?_
    rintro e w8 ⟨rfl, q2, rfl⟩
    go_wp2_with fail
    refine (eq_yes _ _ (hdr t1 n1) hmh _ (r8.drewN _) (r3.drewN _)).mono ?_
    rintro e w9 ⟨rfl, q3, rfl⟩
    go_wp2_with fail
    refine (eq_yes _ _ (hdr t2 n2) hmj _ (r9.drewN _) (r4.drewN _)).mono ?_
    rintro e w10 ⟨rfl, q4, rfl⟩
    go_wp2
    go_ret
    exact ⟨rfl, below_drewN HF.out _⟩

end Go.Proofs.Qxb6625441aDoor
