import Derived.Test.Qxb6625640aLawB
import Derived.Test.Qxb6625640aLawA
/-! The walk of FnTermValueIsSignedSumOfKeptByRank at mode 0; the three modes. -/
namespace Go.Proofs.Qxb6625640a
open Go.RowKit

set_option maxHeartbeats 2000000 in
theorem lawB_all (s : ByteArray) (c : Int) (neg : Bool) (nd sd : Int) (k : Int) (n : Nat) (a : Option Addr) (cap : Nat) (l : List Int) (w : World) (hs : s.size ≤ 65536) (hn : n ≤ 4096) (hln : l.length = n) (hv : Rd w (.slice a n cap) l) :
    Calls Try.prog 3 #[.string s, .int .i64 c, .bool neg, .int .i64 nd, .int .i64 sd, .int .i64 0, .int .i64 k, .slice a n cap] w fun e w' => e = .returned (.bool true) ∧ Below w.heap.size w w' := by
  have hl : n ≤ 1048576 := by omega
  have HN : Hid (l.length = n) := hln
  obtain ⟨r, hr⟩ : ∃ r, sg neg l = r := ⟨_, rfl⟩
  have HE : Hid (sg neg l = r) := hr
  clear hln hr
  go_enter Try.func3, Try.ntmps3
  go_wp2_with (go_at_call 5; refine (bytesB_ok s c neg nd sd 0 k a n cap w hs hn).mono ?_; rintro e w' ⟨rfl, rfl⟩; refine Hid.out ?_)
  refine Lib.hid ?_
  go_wp2_with (go_at_call 6; refine (clone_own _ l n HN.out hl _ hv).mono ?_; rintro e w1 ⟨a1, rfl, o1, b1⟩; refine Hid.out ?_)
  refine Lib.hid ?_
  have v1 := o1.rd
  go_wp2_with (go_at_call 6; refine (clone_own _ l n HN.out hl _ v1).mono ?_; rintro e w2 ⟨a2, rfl, o2, b2⟩; refine Hid.out ?_)
  refine Lib.hid ?_
  have q1 := o1.below b2
  have s1 := b1.size
  have s2 := b2.size
  have HB : Hid (Below w'.heap.size w' w2) := b1.trans (b2.mono s1)
  have t1 := term_new w2 s c neg nd sd 0 k
  have r1 := q1.alloc (term s c neg nd sd 0 k)
  have r2 := o2.alloc (term s c neg nd sd 0 k)
  have HB3 : Hid (Below w'.heap.size w' (w2.alloc (term s c neg nd sd 0 k))) := HB.out.alloc (by omega) _
  clear v1 o1 o2 b1 b2 hv q1 HB
  obtain ⟨w3, hw3⟩ : ∃ w3, w3 = w2.alloc (term s c neg nd sd 0 k) := ⟨_, rfl⟩
  have HW3 : Hid (w3 = w2.alloc (term s c neg nd sd 0 k)) := hw3
  rw [← hw3] at t1 r1 r2
  have HB4 : Hid (Below w'.heap.size w' w3) := by rw [← hw3] at HB3; exact HB3
  clear hw3 HB3
  have hmx : l.length ≤ maxLen := by rw [HN.out]; unfold maxLen; omega
  have hform := r1.form
  have R1 := r1.rd
  have R2 := r2.rd
  clear r1 r2 s1 s2
  go_wp2_with fail
  have hfin : ∀ W, W = w3 → Calls Try.prog 7 #[.pointer (some ⟨w2.heap.size, 0, none⟩), .slice a2 n n] W fun e w' => e = .returned (.int .i64 r) ∧ w3 = w' := by
    rintro W rfl
    exact z_allv w2.heap.size _ l (by rw [HN.out]; exact hl) neg k r HE.out _ t1 R2
  refine (hfin _ HW3.out.symm).mono ?_
  rintro e w4 ⟨rfl, rfl⟩
  clear hfin t1 HW3
  rcases hform with ⟨rfl, rfl, rfl⟩ | ⟨g, rfl⟩
  · have hrz : (r == 0) = true := by rw [← HE.out]; cases neg <;> decide
    clear HE
    go_wp2_with fail
    go_loop [20, 21] (fun t i => i = .int .i64 0 ∧ t = .int .i64 0) (fun _ _ => 0)
    case atStart => exact ⟨rfl, rfl⟩
    case round =>
      obtain ⟨rfl, rfl⟩ := hrel
      cases neg
      all_goals
        go_wp2_with fail
        refine (eq_yes _ _ [] hmx _ R2 R1).mono ?_
        rintro e w6 ⟨rfl, q, rfl⟩
        go_wp2
        go_ret
        exact ⟨rfl, below_drewN HB4.out _⟩
  · have hc : ∀ i, i < n → w3.cell? ⟨g, i, none⟩ = some (.int .i64 (l.getD i 0)) := by
      rcases R1 with ⟨_, a, c, hv⟩ | ⟨b, o, c, hv, hc⟩
      · simp only [Value.slice.injEq] at hv
        intro i hi; omega
      · simp only [Value.slice.injEq, Option.some.injEq, Addr.mk.injEq, and_true] at hv
        obtain ⟨⟨rfl, rfl⟩, h2, rfl⟩ := hv
        intro i hi
        have := hc i (by omega)
        rwa [Nat.zero_add] at this
    have HC : Hid (∀ i, i < n → w3.cell? ⟨g, i, none⟩ = some (.int .i64 (l.getD i 0))) := hc
    clear hc
    go_wp2_with fail
    go_loopw [20, 21] (fun t i wr => ∃ j q : Nat, j ≤ n ∧ i = .int .i64 j ∧ t = .int .i64 (ws (l.take j)) ∧ wr = w3.drewN q) (fun _ i _ => n - (intOf i).toNat)
    case atStart => exact ⟨0, 0, Nat.zero_le _, rfl, by rw [List.take_zero, ws_nil], rfl⟩
    case round =>
      obtain ⟨j, q, hj, rfl, rfl, rfl⟩ := hrel
      by_cases hlt : j < n
      · have cj := HC.out j hlt
        have HS : Hid (wr (ws (l.take j) + l.getD j 0) = ws (l.take (j + 1))) := ws_step l n j HN.out hlt
        go_wp2_with fail
        refine (rank_all _ n n _ k (w3.drewN q)).mono ?_
        rintro e w5 ⟨rfl, q2, rfl⟩
        go_wp2
        go_roundw
        case rel => exact ⟨j + 1, _, by omega, by go_num, by rw [← HS.out]; simp [wrap_is], rfl⟩
        case measure => simp [intOf]; omega
      · have HT : Hid (l.take j = l) := List.take_of_length_le (by rw [HN.out]; omega)
        have hA : (r == if neg then wrap64 (-(ws (l.take j))) else ws (l.take j)) = true := by
          rw [HT.out, wrap_is, ← HE.out]; simp [sg]
        have R1q := R1.drewN q
        have R2q := R2.drewN q
        clear HE HC
        cases neg
        all_goals
          simp only [Bool.false_eq_true, if_false, if_true] at hA
          go_wp2_with fail
          refine (eq_yes _ _ l hmx _ R2q R1q).mono ?_
          rintro e w6 ⟨rfl, q2, rfl⟩
          go_wp2
          go_ret
          exact ⟨rfl, below_drewN HB4.out _⟩

theorem keeps_of (bef : Int → Int → Bool) (l : List Int) (k : Int) : Keeps l (fun i => decide (((cnt bef l i l.length : Nat) : Int) < k)) (kept bef l k) :=
  ⟨kept_zero _ _ _, fun i _ hb => kept_yes _ _ _ _ (by simpa using hb), fun i _ hb => kept_no _ _ _ _ (by simpa using hb)⟩

theorem ranks_hi (l : List Int) (n : Nat) (hn : l.length = n) (hl : n ≤ 1048576) (k : Int) : Ranks 1 k n l (fun i => decide (((cnt hi l i l.length : Nat) : Int) < k)) :=
  fun g w i hi hc => rank_hi g 0 n l n hn hl i hi k w (fun j hj => by rw [Nat.zero_add]; exact hc j hj)
theorem ranks_lo (l : List Int) (n : Nat) (hn : l.length = n) (hl : n ≤ 1048576) (k : Int) : Ranks 2 k n l (fun i => decide (((cnt lo l i l.length : Nat) : Int) < k)) :=
  fun g w i hi hc => rank_lo g 0 n l n hn hl i hi k w (fun j hj => by rw [Nat.zero_add]; exact hc j hj)

theorem values_hi (neg : Bool) (k n : Nat) (l : List Int) (hl : n ≤ 1048576) (hk : k ≤ n) : Values neg 1 k n l (srt l) (sg neg ((srt l).drop (n - k))) :=
  fun tb B a w ht htg h => z_hi tb B a n k l hl hk neg w ht htg h
theorem values_lo (neg : Bool) (k n : Nat) (l : List Int) (hl : n ≤ 1048576) (hk : k ≤ n) : Values neg 2 k n l (srt l) (sg neg ((srt l).take k)) :=
  fun tb B a w ht htg h => z_lo tb B a n k l hl hk neg w ht htg h

/-- Inside the guards. -/
theorem lawB_in (s : ByteArray) (c : Int) (neg : Bool) (nd sd m k : Int) (n : Nat) (a : Option Addr) (cap : Nat) (l : List Int) (w : World) (hs : s.size ≤ 65536) (hn : n ≤ 4096) (hln : l.length = n) (hv : Rd w (.slice a n cap) l)
    (hm1 : 0 ≤ m) (hm2 : m ≤ 2) (hmk : m = 0 ∨ (0 ≤ k ∧ k ≤ n)) :
    Calls Try.prog 3 #[.string s, .int .i64 c, .bool neg, .int .i64 nd, .int .i64 sd, .int .i64 m, .int .i64 k, .slice a n cap] w fun e w' => e = .returned (.bool true) ∧ Below w.heap.size w w' := by
  by_cases h0 : m = 0
  · subst h0
    exact lawB_all s c neg nd sd k n a cap l w hs hn hln hv
  · obtain ⟨q, rfl⟩ : ∃ q : Nat, k = q := ⟨k.toNat, by omega⟩
    have hq : q ≤ n := by omega
    have hl : n ≤ 1048576 := by omega
    by_cases h1 : m = 1
    · subst h1
      refine lawB_kept s c neg nd sd 1 q n a cap l w hs hn hln hv (by omega) (by omega) (by decide) (by decide) hq _ _ (keeps_of hi l q) _ ?_ (values_hi neg q n l hl hq) (ranks_hi l n hln hl q)
      have := kept_hi neg l q
      rw [hln] at this
      exact this.symm
    · obtain rfl : m = 2 := by omega
      refine lawB_kept s c neg nd sd 2 q n a cap l w hs hn hln hv (by omega) (by omega) (by decide) (by decide) hq _ _ (keeps_of lo l q) _ ?_ (values_lo neg q n l hl hq) (ranks_lo l n hln hl q)
      have := kept_lo neg l q
      rw [hln] at this
      exact this.symm

end Go.Proofs.Qxb6625640a
