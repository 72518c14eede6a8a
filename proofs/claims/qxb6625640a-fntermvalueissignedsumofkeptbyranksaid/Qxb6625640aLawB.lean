import Derived.Test.Qxb6625640aIns
import Derived.Test.Qxb6625640aRank
/-! The walk of FnTermValueIsSignedSumOfKeptByRank. -/
namespace Go.Proofs.Qxb6625640a
open Go.RowKit

set_option maxHeartbeats 400000 in
theorem bytesB_ok (s : ByteArray) (c : Int) (neg : Bool) (d sd m k : Int) (a : Option Addr) (n cap : Nat) (w : World) (hs : s.size ≤ 65536) (hn : n ≤ 4096) :
    Calls Try.prog 5 #[.string s, .int .i64 c, .bool neg, .int .i64 d, .int .i64 sd, .int .i64 m, .int .i64 k, .slice a n cap] w fun e w' => e = .returned (.bool true) ∧ w' = w := by
  go_enter Try.func5, Try.ntmps5
  go_wp2
  go_ret
  exact ⟨rfl, rfl⟩

set_option maxHeartbeats 400000 in
theorem bytesB_any (s : ByteArray) (c : Int) (neg : Bool) (d sd m k : Int) (a : Option Addr) (n cap : Nat) (w : World) (hs : s.size ≤ maxLen) (hn : n ≤ maxLen) :
    Calls Try.prog 5 #[.string s, .int .i64 c, .bool neg, .int .i64 d, .int .i64 sd, .int .i64 m, .int .i64 k, .slice a n cap] w fun e w' => ∃ r, e = .returned (.bool r) ∧ w = w' := by
  unfold maxLen at hs hn
  go_enter Try.func5, Try.ntmps5
  go_wp2
  all_goals
    go_ret
    exact ⟨_, rfl, rfl⟩

set_option maxHeartbeats 400000 in
theorem lawB_out (s : ByteArray) (c : Int) (neg : Bool) (d sd m k : Int) (a : Option Addr) (n cap : Nat) (w : World) (hs : s.size ≤ maxLen) (hn : n ≤ maxLen)
    (hout : 65536 < s.size ∨ (s.size ≤ 65536 ∧ (4096 < n ∨ (n ≤ 4096 ∧ (m < 0 ∨ (0 ≤ m ∧ (2 < m ∨ (m ≤ 2 ∧ (m == 0) = false ∧ (k < 0 ∨ (0 ≤ k ∧ (n : Int) < k)))))))))) :
    Calls Try.prog 3 #[.string s, .int .i64 c, .bool neg, .int .i64 d, .int .i64 sd, .int .i64 m, .int .i64 k, .slice a n cap] w fun e w' => e = .returned (.bool true) ∧ Below w.heap.size w w' := by
  have hs' := hs
  have hn' := hn
  unfold maxLen at hs' hn'
  rcases hout with h1 | ⟨h1, h2 | ⟨h2, h3 | ⟨h3, h4 | ⟨h4, h5, h6 | ⟨h6, h7⟩⟩⟩⟩⟩
  all_goals
    try (have hmz : (m != 0) = true := by simpa using h5)
    go_enter Try.func3, Try.ntmps3
    go_wp2_with (go_at_call 5; refine (bytesB_any s c neg d sd m k a n cap w hs hn).mono ?_; rintro e w' ⟨r, rfl, rfl⟩; cases r)
    all_goals
      go_ret
      exact ⟨rfl, Below.refl _ _⟩

/-- What zzKeptByRank answers at each place, and what is kept so far. -/
structure Keeps (l : List Int) (b : Nat → Bool) (K : Nat → List Int) : Prop where
  zero : K 0 = []
  yes : ∀ i, i < l.length → b i = true → K (i + 1) = K i ++ [l.getD i 0]
  no : ∀ i, i < l.length → b i = false → K (i + 1) = K i

theorem Keeps.step_yes {l : List Int} {b : Nat → Bool} {K : Nat → List Int} (h : Keeps l b K) {i : Nat} (hi : i < l.length) (hb : b i = true) : wr (ws (K i) + l.getD i 0) = ws (K (i + 1)) := by
  rw [h.yes i hi hb, ws_snoc]
theorem Keeps.step_no {l : List Int} {b : Nat → Bool} {K : Nat → List Int} (h : Keeps l b K) {i : Nat} (hi : i < l.length) (hb : b i = false) : ws (K i) = ws (K (i + 1)) := by
  rw [h.no i hi hb]

/-- The contract of the call of value, at a mode and a count. -/
def Values (neg : Bool) (m k : Int) (n : Nat) (l R : List Int) (r : Int) : Prop :=
  ∀ (tb B : Nat) (a : Option Addr) (w : World), TermAt w tb neg m k → blk a ≠ some tb → Own w B a n l →
    Calls Try.prog 7 #[.pointer (some ⟨tb, 0, none⟩), .slice a n n] w fun e w' => e = .returned (.int .i64 r) ∧ Own w' B a n R ∧ w.grownBy w' (blk a)

/-- The contract of the calls of zzKeptByRank. -/
def Ranks (m k : Int) (n : Nat) (l : List Int) (b : Nat → Bool) : Prop :=
  ∀ (g : Nat) (w : World) (i : Nat), i < n → (∀ i, i < n → w.cell? ⟨g, i, none⟩ = some (.int .i64 (l.getD i 0))) →
    Calls Try.prog 8 #[.slice (some ⟨g, 0, none⟩) n n, .int .i64 (i : Int), .int .i64 m, .int .i64 k] w fun e w' => e = .returned (.bool (b i)) ∧ ∃ q, w' = w.drewN q

theorem Ranks.at {m k : Int} {n : Nat} {l : List Int} {b : Nat → Bool} (h : Ranks m k n l b) (g : Nat) (w : World) (i : Nat) (hi : i < n) (hc : ∀ i, i < n → w.cell? ⟨g, i, none⟩ = some (.int .i64 (l.getD i 0))) (v : Bool) (hb : b i = v) :
    Calls Try.prog 8 #[.slice (some ⟨g, 0, none⟩) n n, .int .i64 (i : Int), .int .i64 m, .int .i64 k] w fun e w' => e = .returned (.bool v) ∧ ∃ q, w' = w.drewN q := by
  subst hb
  exact h g w i hi hc

set_option maxHeartbeats 2000000 in
theorem lawB_kept (s : ByteArray) (c : Int) (neg : Bool) (nd sd m : Int) (k n : Nat) (a : Option Addr) (cap : Nat) (l : List Int) (w : World) (hs : s.size ≤ 65536) (hn : n ≤ 4096) (hln : l.length = n) (hv : Rd w (.slice a n cap) l)
    (hm1 : 0 ≤ m) (hm2 : m ≤ 2) (hmz : (m != 0) = true) (hme : (m == 0) = false) (hk : k ≤ n) (b : Nat → Bool) (K : Nat → List Int) (hK : Keeps l b K) (r : Int) (hr : r = sg neg (K n)) (hV : Values neg m k n l (srt l) r) (hR : Ranks m k n l b) :
    Calls Try.prog 3 #[.string s, .int .i64 c, .bool neg, .int .i64 nd, .int .i64 sd, .int .i64 m, .int .i64 (k : Int), .slice a n cap] w fun e w' => e = .returned (.bool true) ∧ Below w.heap.size w w' := by
  have hl : n ≤ 1048576 := by omega
  have HN : Hid (l.length = n) := hln
  have HK : Hid (Keeps l b K) := hK
  have HR : Hid (Ranks m k n l b) := hR
  have HV : Hid (Values neg m k n l (srt l) r) := hV
  have HE : Hid (r = sg neg (K n)) := hr
  clear hln hK hR hV hr
  go_enter Try.func3, Try.ntmps3
  go_wp2_with (go_at_call 5; refine (bytesB_ok s c neg nd sd m k a n cap w hs hn).mono ?_; rintro e w' ⟨rfl, rfl⟩; refine Hid.out ?_)
  refine Lib.hid ?_
  go_wp2_with (go_at_call 6; refine (clone_own _ l n HN.out hl _ hv).mono ?_; rintro e w1 ⟨a1, rfl, o1, b1⟩; refine Hid.out ?_)
  refine Lib.hid ?_
  have v1 := o1.rd
  go_wp2_with (go_at_call 6; refine (clone_own _ l n HN.out hl _ v1).mono ?_; rintro e w2 ⟨a2, rfl, o2, b2⟩; refine Hid.out ?_)
  refine Lib.hid ?_
  have q1 := o1.below b2
  have s1 := b1.size
  have s2 := b2.size
  have HB : Hid (Below w'.heap.size w' w2) := b1.trans (b2.mono s1)
  have p1 := o1.lt
  have p2 := o2.lt
  have t1 := term_new w2 s c neg nd sd m k
  have r1 := q1.alloc (term s c neg nd sd m k)
  have r2 := o2.alloc (term s c neg nd sd m k)
  have HB3 : Hid (Below w'.heap.size w' (w2.alloc (term s c neg nd sd m k))) := HB.out.alloc (by omega) _
  clear v1 o1 o2 b1 b2 hv q1 HB
  go_wp2_with fail
  refine (HV.out w2.heap.size w1.heap.size a2 _ t1 ?_ r2).mono ?_
  · intro e; have := p2 _ e; omega
  rintro e w4 ⟨rfl, u2, g4⟩
  have x1 := r1.kept g4 (fun k h1 h2 => by have := p1 _ h1; have := p2 _ h2; omega)
  have HB4 : Hid (Below w'.heap.size w' w4) := HB3.out.grown g4 (by simp; omega) (fun k h => by have := p2 _ h; omega)
  clear r1 r2 t1 g4 HB3 HV
  have hmx : (srt l).length ≤ maxLen := by rw [srt_length, HN.out]; unfold maxLen; omega
  have hform := x1.form
  have R1 := x1.rd
  have R2 := u2.rd
  have U2 := u2
  have hp4 := HB4.out.size
  clear x1 p1 p2 s1 s2
  rcases hform with ⟨rfl, rfl, rfl⟩ | ⟨g, rfl⟩
  · have hrz : (r == 0) = true := by rw [HE.out, HK.out.zero]; cases neg <;> decide
    clear HE HK HR
    go_wp2_with fail
    go_loop [20, 21] (fun t i => i = .int .i64 0 ∧ t = .int .i64 0) (fun _ _ => 0)
    case atStart => exact ⟨rfl, rfl⟩
    case round =>
      obtain ⟨rfl, rfl⟩ := hrel
      cases neg
      all_goals
        go_wp2_with fail
        refine (ins_any none 0 [] 0 rfl (by omega) w4 R1).mono ?_
        rintro e w5 ⟨a5, rfl, o5, b5⟩
        have R2' := R2.keep b5
        have R5 := o5.rd
        go_wp2_with fail
        refine (eq_yes _ _ (srt []) hmx _ R2' R5).mono ?_
        rintro e w6 ⟨rfl, q, rfl⟩
        go_wp2
        go_ret
        exact ⟨rfl, below_drewN (HB4.out.trans (b5.mono hp4)) _⟩
  · have hc : ∀ i, i < n → w4.cell? ⟨g, i, none⟩ = some (.int .i64 (l.getD i 0)) := by
      rcases R1 with ⟨_, a, c, hv⟩ | ⟨b, o, c, hv, hc⟩
      · simp only [Value.slice.injEq] at hv
        intro i hi; omega
      · simp only [Value.slice.injEq, Option.some.injEq, Addr.mk.injEq, and_true] at hv
        obtain ⟨⟨rfl, rfl⟩, h2, rfl⟩ := hv
        intro i hi
        have := hc i (by omega)
        rwa [Nat.zero_add] at this
    have HC : Hid (∀ i, i < n → w4.cell? ⟨g, i, none⟩ = some (.int .i64 (l.getD i 0))) := hc
    clear hc U2
    go_wp2_with fail
    go_loopw [20, 21] (fun t i wr => ∃ j q : Nat, j ≤ n ∧ i = .int .i64 j ∧ t = .int .i64 (ws (K j)) ∧ wr = w4.drewN q) (fun _ i _ => n - (intOf i).toNat)
    case atStart => exact ⟨0, 0, Nat.zero_le _, rfl, by rw [HK.out.zero, ws_nil], rfl⟩
    case round =>
      obtain ⟨j, q, hj, rfl, rfl, rfl⟩ := hrel
      by_cases hlt : j < n
      · have cj := HC.out j hlt
        have hjl : j < l.length := by rw [HN.out]; exact hlt
        have HJL : Hid (j < l.length) := hjl
        clear hjl
        cases hb : b j with
        | true =>
          have HS : Hid (wr (ws (K j) + l.getD j 0) = ws (K (j + 1))) := HK.out.step_yes HJL.out hb
          have HBJ : Hid (b j = true) := hb
          clear hb
          go_wp2_with fail
          refine (HR.out.at g (w4.drewN q) j hlt HC.out true HBJ.out).mono ?_
          rintro e w5 ⟨rfl, q2, rfl⟩
          go_wp2
          go_roundw
          case rel => exact ⟨j + 1, _, by omega, by go_num, by rw [← HS.out]; simp [wrap_is], rfl⟩
          case measure => simp [intOf]; omega
        | false =>
          have HS : Hid (ws (K j) = ws (K (j + 1))) := HK.out.step_no HJL.out hb
          have HBJ : Hid (b j = false) := hb
          clear hb
          go_wp2_with fail
          refine (HR.out.at g (w4.drewN q) j hlt HC.out false HBJ.out).mono ?_
          rintro e w5 ⟨rfl, q2, rfl⟩
          go_wp2
          go_roundw
          case rel => exact ⟨j + 1, _, by omega, by go_num, by rw [← HS.out], rfl⟩
          case measure => simp [intOf]; omega
      · obtain rfl : j = n := by omega
        have hA : (r == if neg then wrap64 (-(ws (K j))) else ws (K j)) = true := by
          rw [wrap_is, HE.out]; simp [sg]
        have R1q := R1.drewN q
        have R2q := R2.drewN q
        clear HE HR HC
        cases neg
        all_goals
          simp only [Bool.false_eq_true, if_false, if_true] at hA
          go_wp2_with fail
          refine (ins_any (some ⟨g, 0, none⟩) j l j HN.out hl (w4.drewN q) R1q).mono ?_
          rintro e w5 ⟨a5, rfl, o5, b5⟩
          have R2' := R2q.keep b5
          have R5 := o5.rd
          go_wp2_with fail
          refine (eq_yes _ _ (srt l) hmx _ R2' R5).mono ?_
          rintro e w6 ⟨rfl, q2, rfl⟩
          go_wp2
          go_ret
          exact ⟨rfl, below_drewN ((below_drewN HB4.out q).trans (b5.mono hp4)) _⟩

end Go.Proofs.Qxb6625640a
