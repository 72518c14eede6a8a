import Derived.Test.Qxb6625441aDoorMake
import Derived.Test.Qxb6625441aDoorDecode
/-! The walk of FnAppendHeaderExtendsAndDecodes. -/
namespace Go.Proofs.Qxb6625441aDoor
open Go.RowKit Go.Lib

theorem own_form {w : World} {B : Nat} {v : Value} {n : Nat} {xs : List Value} (h : w.ownsRow B 5 1 v n xs) : ∃ a c, v = .slice a n c ∧ n ≤ c ∧ (∀ k, v.ownBlock = some k → k < w.heap.size) := by
  have hlt := h.lt
  rcases h.2 with ⟨rfl, rfl⟩ | ⟨g, cap, cur, rfl, hb, hg, hnc, r⟩
  · exact ⟨none, 0, rfl, Nat.le_refl _, fun k hk => (hlt k hk).2⟩
  · exact ⟨_, cap, rfl, hnc, fun k hk => (hlt k hk).2⟩

theorem own_form_pos {w : World} {B : Nat} {v : Value} {n : Nat} {xs : List Value} (h : w.ownsRow B 5 1 v n xs) (hn : 0 < n) : ∃ g c, v = .slice (some ⟨g, 0, none⟩) n c ∧ n ≤ c ∧ B ≤ g ∧ g < w.heap.size := by
  have hlt := h.lt
  rcases h.2 with ⟨rfl, rfl⟩ | ⟨g, cap, cur, rfl, hb, hg, hnc, r⟩
  · omega
  · exact ⟨g, cap, rfl, hnc, hlt g rfl⟩

theorem tab_mono {P : Program} {B B' : Nat} {w : World} {name : String} {k : IntKind} {zs : List Int} (h : TabBelow P B w name k zs) (hB : B ≤ B') : TabBelow P B' w name k zs :=
  fun w' hb => h w' (hb.mono hB)

/-- zzClone, the value written out. -/
theorem clone_is (v : Value) (l : List UInt8) (hl : l.length ≤ 1048576) (k : Nat) (hk : l.length = k) (w : World) (hv : Rd w v l) :
    Calls Tryd.prog 6 #[v] w fun e w' => ∃ a c, e = .returned (.slice a k c) ∧ c = k ∧ w'.ownsRow w.heap.size 5 1 (.slice a k c) l.length (byteCells l) ∧ Below w.heap.size w w' := by
  subst hk
  refine (clone_any v l hl w hv).mono fun e w' ⟨v', he, ⟨a, hv⟩, ho, hb⟩ => ?_
  subst hv
  exact ⟨a, l.length, he, rfl, ho, hb⟩

/-- appendHeader, the value written out. -/
theorem hdr_is (B : Nat) (sv : Value) (xs : List UInt8) (t : UInt8) (n : Int) (h0 : -9223372036854775808 ≤ n) (h1 : n ≤ 9223372036854775807) (N : Nat) (hN : (xs ++ hdr t n).length = N) (w : World)
    (hown : w.ownsRow B 5 1 sv xs.length (byteCells xs)) (hB : B ≤ w.heap.size) (hlim : xs.length ≤ 1073741824)
    (hT : Lib.TabBelow Tryd.prog B w "internal/strconv.uint64pow10" .u64 Lib.pow10Tab) :
    Calls Tryd.prog 7 #[sv, .int .u8 (t.toNat : Int), .int .i64 n] w fun e w' => ∃ g c, e = .returned (.slice (some ⟨g, 0, none⟩) N c) ∧ N ≤ c ∧ B ≤ g ∧ g < w'.heap.size ∧ w'.ownsRow B 5 1 (.slice (some ⟨g, 0, none⟩) N c) (xs ++ hdr t n).length (byteCells (xs ++ hdr t n)) ∧ Below B w w' := by
  subst hN
  refine (zhdr_any B sv xs t n h0 h1 w hown hB hlim hT).mono fun e w' ⟨v', he, ho, hb⟩ => ?_
  obtain ⟨g, c, rfl, h1, h2, h3⟩ := own_form_pos ho (by simp [hdr]; omega)
  exact ⟨g, c, he, h1, h2, h3, ho, hb⟩

/-- zzEqual at equal bytes. -/
theorem eq_yes (va vb : Value) (xs : List UInt8) (hm : xs.length ≤ maxLen) (w : World) (ha : Rd w va xs) (hb : Rd w vb xs) :
    Calls Tryd.prog 9 #[va, vb] w fun e w' => e = .returned (.bool true) ∧ ∃ q, w' = w.drewN q := by
  have := eq_any va vb xs xs hm w ha hb
  rwa [decide_eq_true rfl] at this

/-- The first part of a row. -/
theorem rd_take {w : World} {b c : Nat} {xs ys : List UInt8} {k N : Nat} (h : Rd w (.slice (some ⟨b, 0, none⟩) N c) (xs ++ ys)) (hN : (xs ++ ys).length = N) (hk : xs.length = k) (hp : 0 < N) (c' : Nat) :
    Rd w (.slice (some ⟨b, 0, none⟩) k c') xs := by
  subst hk
  rcases h with ⟨h, _⟩ | ⟨b', o', c2, hv, hc⟩
  · rw [h] at hN; simp at hN; omega
  · simp only [Value.slice.injEq, Option.some.injEq, Addr.mk.injEq, and_true] at hv
    obtain ⟨⟨rfl, rfl⟩, -, rfl⟩ := hv
    refine .inr ⟨_, _, c', rfl, fun i hi => ?_⟩
    rw [hc i (by simp; omega), getD_at _ _ hi, getD_at _ _ (by simp; omega), List.getElem_append_left hi]

/-- What lies behind it. -/
theorem rd_drop {w : World} {b c : Nat} {xs ys : List UInt8} {k N : Nat} (h : Rd w (.slice (some ⟨b, 0, none⟩) N c) (xs ++ ys)) (hN : (xs ++ ys).length = N) (hk : xs.length = k) (hp : 0 < N) (c' m : Nat) (hm : ys.length = m) :
    Rd w (.slice (some ⟨b, k, none⟩) m c') ys := by
  subst hk; subst hm
  rcases h with ⟨h, _⟩ | ⟨b', o', c2, hv, hc⟩
  · rw [h] at hN; simp at hN; omega
  · simp only [Value.slice.injEq, Option.some.injEq, Addr.mk.injEq, and_true] at hv
    obtain ⟨⟨rfl, rfl⟩, -, rfl⟩ := hv
    refine .inr ⟨_, _, c', rfl, fun i hi => ?_⟩
    have := hc (xs.length + i) (by simp; omega)
    rw [Nat.zero_add] at this
    rw [this, getD_at _ _ hi, getD_at _ _ (by simp; omega), List.getElem_append_right (by omega)]
    simp

set_option maxHeartbeats 400000 in
theorem bytes_ok (a : Option Addr) (len cap : Nat) (t n : Int) (w : World) (h : len ≤ 1048576) :
    Calls Tryd.prog 5 #[.slice a len cap, .int .u8 t, .int .i64 n] w fun e w' => e = .returned (.bool true) ∧ w' = w := by
  go_enter Tryd.func5, Tryd.ntmps5
  go_wp2
  go_ret
  exact ⟨rfl, rfl⟩

set_option maxHeartbeats 400000 in
theorem bytes_no (a : Option Addr) (len cap : Nat) (t n : Int) (w : World) (h : 1048576 < len) (hm : len ≤ maxLen) :
    Calls Tryd.prog 5 #[.slice a len cap, .int .u8 t, .int .i64 n] w fun e w' => e = .returned (.bool false) ∧ w' = w := by
  unfold maxLen at hm
  go_enter Tryd.func5, Tryd.ntmps5
  go_wp2
  go_ret
  exact ⟨rfl, rfl⟩

set_option maxHeartbeats 400000 in
theorem law1_long (a : Option Addr) (len cap : Nat) (t n : Int) (w : World) (h : 1048576 < len) (hm : len ≤ maxLen) :
    Calls Tryd.prog 3 #[.slice a len cap, .int .u8 t, .int .i64 n] w fun e w' => e = .returned (.bool true) ∧ Below w.heap.size w w' := by
  go_enter Tryd.func3, Tryd.ntmps3
  go_wp2_with (go_at_call 5; refine (bytes_no a len cap t n w h hm).mono ?_; rintro e w' ⟨rfl, rfl⟩)
  go_ret
  exact ⟨rfl, Below.refl _ _⟩

set_option maxHeartbeats 1000000 in
theorem law1_short (a : Option Addr) (k cap : Nat) (l : List UInt8) (t : UInt8) (n : Int) (h0 : -9223372036854775808 ≤ n) (h1 : n ≤ 9223372036854775807) (w : World) (hl : l.length = k) (hk : k ≤ 1048576)
    (hv : Rd w (.slice a k cap) l) (hT : Lib.TabIs Tryd.prog w "internal/strconv.uint64pow10" .u64 Lib.pow10Tab) :
    Calls Tryd.prog 3 #[.slice a k cap, .int .u8 (t.toNat : Int), .int .i64 n] w fun e w' => e = .returned (.bool true) ∧ Below w.heap.size w w' := by
  have hT0 := Lib.tabBelow_of_tabIs hT
  obtain ⟨H, hH⟩ : ∃ H, (hdr t n).length = H := ⟨_, rfl⟩
  have ln := Lib.itoa_length_le n h0 h1
  have hHb : H ≤ 24 ∧ 3 ≤ H := by rw [← hH, hdr_length]; omega
  obtain ⟨hH1, hH2⟩ := hHb
  have hN : (l ++ hdr t n).length = k + H := by simp [hl, hH]
  have HH : Hid ((hdr t n).length = H) := hH
  have HL : Hid (l.length = k) := hl
  have HN : Hid ((l ++ hdr t n).length = k + H) := hN
  clear hH hl hN ln
  go_enter Tryd.func3, Tryd.ntmps3
  go_wp2_with (go_at_call 5; refine (bytes_ok a k cap _ n w hk).mono ?_; rintro e w' ⟨rfl, rfl⟩; refine Hid.out ?_)
  refine Lib.hid ?_
  go_wp2_with (go_at_call 6; refine (clone_is _ l (by rw [HL.out]; exact hk) k HL.out _ hv).mono ?_; rintro e w1 ⟨a1, c1, rfl, -, ho1, hb1⟩; refine Hid.out ?_)
  refine Lib.hid ?_
  have hv1 : Rd w1 (.slice a k cap) l := hv.keep hb1
  go_wp2_with (go_at_call 6; refine (clone_is _ l (by rw [HL.out]; exact hk) k HL.out _ hv1).mono ?_; rintro e w2 ⟨a2, c2, rfl, -, ho2, hb2⟩; refine Hid.out ?_)
  refine Lib.hid ?_
  have s1 := hb1.size
  have s2 := hb2.size
  have hT2 : Lib.TabBelow Tryd.prog w1.heap.size w2 "internal/strconv.uint64pow10" .u64 Lib.pow10Tab := tab_mono (hT0.on (hb1.trans (hb2.mono s1))) s1
  have ho2' : w2.ownsRow w1.heap.size 5 1 (.slice a2 k c2) l.length (byteCells l) := ho2
  have hlim : l.length ≤ 1073741824 := by rw [HL.out]; omega
  go_wp2_with (go_at_call 7; refine (hdr_is w1.heap.size _ l t n h0 h1 (k + H) HN.out w2 ho2' s2 hlim hT2).mono ?_; rintro e w3 ⟨g3, c3, rfl, hc3, hg3, hg3', ho3, hb3⟩; refine Hid.out ?_)
  refine Lib.hid ?_
  have s3 := hb3.size
  have hT3 : Lib.TabBelow Tryd.prog w3.heap.size w3 "internal/strconv.uint64pow10" .u64 Lib.pow10Tab := tab_mono (hT0.on (hb1.trans ((hb2.mono s1).trans (hb3.mono s1)))) (by omega)
  have HNH : ([] ++ hdr t n).length = H := HH.out
  have HNH' : Hid (([] ++ hdr t n).length = H) := HNH
  clear HNH
  go_wp2_with (go_at_call 7; refine (hdr_is w3.heap.size _ [] t n h0 h1 H HNH'.out w3 (World.ownsRow_nil _ _ _ _) (Nat.le_refl _) (by simp) hT3).mono ?_; rintro e w4 ⟨g4, c4, rfl, hc4, hg4, hg4', ho4, hb4⟩; refine Hid.out ?_)
  refine Lib.hid ?_
  have s4 := hb4.size
  have r4 : Rd w4 (.slice (some ⟨g4, 0, none⟩) H c4) (hdr t n) := Rd.of_own (B := w3.heap.size) (by rw [HNH'.out] at ho4; rw [HH.out]; exact ho4)
  have hcap4 : ∀ x len cap, Value.slice (some ⟨g4, 0, none⟩) H c4 = .slice x len cap → len ≤ cap := by
    intro x len cap e
    simp only [Value.slice.injEq] at e
    obtain ⟨-, rfl, rfl⟩ := e
    exact hc4
  go_wp2_with (go_at_call 8; refine (dec_any _ t n h0 h1 w4 r4 hcap4).mono ?_; rintro e w' ⟨rfl, rfl⟩; refine Hid.out ?_)
  refine Lib.hid ?_
  have hm : l.length ≤ maxLen := by rw [HL.out]; unfold maxLen; omega
  have hmh : (hdr t n).length ≤ maxLen := by rw [HH.out]; unfold maxLen; omega
  have b13 : Below w1.heap.size w1 w' := hb2.trans (hb3.trans (hb4.mono (by omega)))
  have b3 : Below w3.heap.size w3 w' := hb4
  have r1 : Rd w' (.slice a1 k c1) l := by
    have : Rd w1 (.slice a1 k c1) l := Rd.of_own ho1
    exact this.below (fun x hx => (ho1.lt x hx).2) b13
  have r3 : Rd w' (.slice (some ⟨g3, 0, none⟩) (k + H) c3) (l ++ hdr t n) := by
    have : Rd w3 (.slice (some ⟨g3, 0, none⟩) (k + H) c3) (l ++ hdr t n) := Rd.of_own ho3
    exact this.below (fun x hx => (ho3.lt x hx).2) b3
  have r5 := rd_take r3 HN.out HL.out (by omega) c3
  have r6 := rd_drop r3 HN.out HL.out (by omega) (c3 - k) H HH.out
  go_wp2_with fail
  refine (eq_yes _ _ l hm _ r5 r1).mono ?_
  rintro e w5 ⟨rfl, q, rfl⟩
  go_wp2_with fail
  refine (eq_yes _ _ (hdr t n) hmh _ (r6.drewN q) (r4.drewN q)).mono ?_
  rintro e w6 ⟨rfl, q', rfl⟩
  go_wp2
  go_ret
  exact ⟨rfl, below_drewN (hb1.trans (b13.mono s1)) _⟩

end Go.Proofs.Qxb6625441aDoor
