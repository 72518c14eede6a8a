import Derived.Test.Qxb6625640aProg
import Derived.Test.Qxb6625640aPlain
import Derived.WalkKit
import Derived.WalkSpells
import Derived.WalkLawsBesides
import Derived.Deep.QuietTactic
import Derived.BigQuiet
import Derived.Lib.Hide
/-! The walks of the leaves: zzEqualInts, zzCloneInts, sum. -/
namespace Go.Proofs.Qxb6625640a
open Go.RowKit

theorem ret_int {k : IntKind} {a b : Int} (h : a = b) : Ending.returned (.int k a) = .returned (.int k b) := by rw [h]
theorem ret_bool {a b : Bool} (h : a = b) : Ending.returned (.bool a) = .returned (.bool b) := by rw [h]

theorem infoInt : (Try.prog.info? 3).map (fun i => (i.zero, i.size, i.bytes)) = some (some (.int .i64 0), 1, 8) := by kernel_rfl

/-- A row of ints as cells. -/
def ic (l : List Int) : List Value := l.map (Value.int .i64)
theorem ic_length (l : List Int) : (ic l).length = l.length := by simp [ic]

/-- A slice value that reads as these ints. -/
def Rd (w : World) (v : Value) (l : List Int) : Prop :=
  (l = [] ∧ ∃ a c, v = .slice a 0 c) ∨ ∃ b o c, v = .slice (some ⟨b, o, none⟩) l.length c ∧ ∀ i, i < l.length → w.cell? ⟨b, o + i, none⟩ = some (.int .i64 (l.getD i 0))

theorem Rd.of_own {w : World} {B : Nat} {v : Value} {l : List Int} (h : w.ownsRow B 3 1 v l.length (ic l)) : Rd w v l := by
  rcases h.2 with ⟨rfl, h0⟩ | ⟨g, cap, cur, rfl, hb, hg, r⟩
  · exact .inl ⟨List.eq_nil_of_length_eq_zero h0, none, 0, rfl⟩
  · refine .inr ⟨g, 0, cap, rfl, fun i hi => ?_⟩
    have := h.cells (g := g) rfl i (.int .i64 (l.getD i 0)) (by simp [ic, hi])
    rw [Addr.add_lit] at this
    exact this

theorem Rd.keep {w w' : World} {v : Value} {l : List Int} (h : Rd w v l) (hb : Below w.heap.size w w') : Rd w' v l := by
  rcases h with h | ⟨b, o, c, rfl, hc⟩
  · exact .inl h
  · exact .inr ⟨b, o, c, rfl, fun i hi => (hb.cell (p := ⟨b, o + i, none⟩) (World.block_lt_of_cell? w ⟨b, o + i, none⟩ (hc i hi))).trans (hc i hi)⟩

theorem Rd.drewN {w : World} {v : Value} {l : List Int} (h : Rd w v l) (q : Nat) : Rd (w.drewN q) v l := h

set_option maxHeartbeats 400000 in
theorem eq_len (a b : Option Addr) (n m c d : Nat) (w : World) (h : n ≠ m) :
    Calls Try.prog 9 #[.slice a n c, .slice b m d] w fun e w' => e = .returned (.bool false) ∧ ∃ q, w' = w.drewN q := by
  have h2 : ¬ (n : Int) = (m : Int) := by omega
  go_enter Try.func9, Try.ntmps9
  go_wp2
  go_ret
  exact ⟨rfl, 0, rfl⟩

set_option maxHeartbeats 400000 in
theorem eq_none (a b : Option Addr) (c d : Nat) (w : World) :
    Calls Try.prog 9 #[.slice a 0 c, .slice b 0 d] w fun e w' => e = .returned (.bool true) ∧ ∃ q, w' = w.drewN q := by
  go_enter Try.func9, Try.ntmps9
  go_wp2
  go_loop [5] (fun i => i = .int .i64 0) (fun _ => 0)
  case atStart => rfl
  case round =>
    subst hrel
    go_wp2
    go_ret
    exact ⟨rfl, 0, rfl⟩

theorem take_snoc_eq {xs ys : List Int} {n k : Nat} (hx : xs.length = n) (hy : ys.length = n) (hk : k < n) (ht : xs.take k = ys.take k)
    (he : (xs[k]?.getD 0 != ys[k]?.getD 0) = false) : xs.take (k + 1) = ys.take (k + 1) := by
  have e : xs[k]?.getD 0 = ys[k]?.getD 0 := by simpa using he
  rw [List.take_add_one, List.take_add_one, ht]
  have h1 : xs[k]? = some (xs[k]'(by omega)) := List.getElem?_eq_getElem _
  have h2 : ys[k]? = some (ys[k]'(by omega)) := List.getElem?_eq_getElem _
  rw [h1, h2] at e ⊢
  simp at e
  rw [e]

theorem ne_of_at {xs ys : List Int} {k : Nat} (he : (xs[k]?.getD 0 != ys[k]?.getD 0) = true) : decide (xs = ys) = false := by
  apply decide_eq_false
  rintro rfl
  simp at he

set_option maxHeartbeats 400000 in
theorem eq_same (a b o o' c d : Nat) (xs ys : List Int) (hl : xs.length = ys.length) (hm : ys.length ≤ maxLen) (w : World)
    (hx : ∀ i, i < xs.length → w.cell? ⟨a, o + i, none⟩ = some (.int .i64 (xs.getD i 0)))
    (hy : ∀ i, i < ys.length → w.cell? ⟨b, o' + i, none⟩ = some (.int .i64 (ys.getD i 0))) :
    Calls Try.prog 9 #[.slice (some ⟨a, o, none⟩) xs.length c, .slice (some ⟨b, o', none⟩) ys.length d] w fun e w' => e = .returned (.bool (decide (xs = ys))) ∧ ∃ q, w' = w.drewN q := by
  unfold maxLen at hm
  rw [hl] at hx ⊢
  obtain ⟨n, hn⟩ : ∃ n, ys.length = n := ⟨_, rfl⟩
  have HN : Hid (ys.length = n) := hn
  have HL : Hid (xs.length = n) := hl.trans hn
  rw [hn] at hx hy hm ⊢
  clear hn hl
  go_enter Try.func9, Try.ntmps9
  go_wp2
  go_loopw [5] (fun i wr => ∃ k q : Nat, k ≤ n ∧ i = .int .i64 k ∧ wr = w.drewN q ∧ Hid (xs.take k = ys.take k)) (fun i _ => n - (intOf i).toNat)
  case atStart => exact ⟨0, 0, Nat.zero_le _, rfl, rfl, rfl⟩
  case round =>
    obtain ⟨k, q, hk, rfl, rfl, ht⟩ := hrel
    by_cases hlt : k < n
    · have c1 := hx k hlt
      have c2 := hy k hlt
      go_wp2
      go_quiet (fail)
      go_wp2
      · go_ret
        have he : (xs[k]?.getD 0 != ys[k]?.getD 0) = true := by assumption
        exact ⟨ret_bool (ne_of_at he).symm, q + nq, by simp⟩
      · have he : (xs[k]?.getD 0 != ys[k]?.getD 0) = false := by assumption
        have hs := take_snoc_eq HL.out HN.out hlt ht.out he
        go_roundw
        case rel => exact ⟨k + 1, _, by omega, by go_num, rfl, hs⟩
        case measure => simp [intOf]; omega
    · obtain rfl : k = n := by omega
      go_wp2
      go_ret
      have h1 := ht.out
      rw [List.take_of_length_le (by rw [HL.out]; exact Nat.le_refl _), List.take_of_length_le (by rw [HN.out]; exact Nat.le_refl _)] at h1
      exact ⟨ret_bool (by simp [h1]), _, rfl⟩

/-- zzEqualInts: are the numbers the same? -/
theorem eq_any (va vb : Value) (xs ys : List Int) (hm : ys.length ≤ maxLen) (w : World) (ha : Rd w va xs) (hb : Rd w vb ys) :
    Calls Try.prog 9 #[va, vb] w fun e w' => e = .returned (.bool (decide (xs = ys))) ∧ ∃ q, w' = w.drewN q := by
  rcases ha with ⟨rfl, a, c, rfl⟩ | ⟨a, o, c, rfl, ha⟩ <;> rcases hb with ⟨rfl, b, d, rfl⟩ | ⟨b, o', d, rfl, hb⟩
  · exact eq_none a b c d w
  · by_cases hl : ys.length = 0
    · obtain rfl := List.eq_nil_of_length_eq_zero hl
      exact eq_none _ _ _ _ w
    · have e : decide ([] = ys) = false := decide_eq_false (by rintro rfl; exact hl rfl)
      rw [e]
      exact eq_len _ _ _ _ _ _ w (Ne.symm hl)
  · by_cases hl : xs.length = 0
    · obtain rfl := List.eq_nil_of_length_eq_zero hl
      exact eq_none _ _ _ _ w
    · have e : decide (xs = []) = false := decide_eq_false (by rintro rfl; exact hl rfl)
      rw [e]
      exact eq_len _ _ _ _ _ _ w hl
  · by_cases hl : xs.length = ys.length
    · exact eq_same a b o o' c d xs ys hl hm w ha hb
    · have e : decide (xs = ys) = false := decide_eq_false (by rintro rfl; exact hl rfl)
      rw [e]
      exact eq_len _ _ _ _ _ _ w hl

theorem eq_yes (va vb : Value) (xs : List Int) (hm : xs.length ≤ maxLen) (w : World) (ha : Rd w va xs) (hb : Rd w vb xs) :
    Calls Try.prog 9 #[va, vb] w fun e w' => e = .returned (.bool true) ∧ ∃ q, w' = w.drewN q := by
  have := eq_any va vb xs xs hm w ha hb
  rwa [decide_eq_true rfl] at this

/-! ### zzCloneInts -/
set_option maxHeartbeats 400000 in
theorem clone_nil (c : Nat) (w : World) :
    Calls Try.prog 6 #[.slice none 0 c] w fun e w' => e = .returned (.slice none 0 0) ∧ w' = w := by
  have hnil := fun (wx : World) => Lib.run_eql_slice_nil (P := Try.prog) wx 22 3 none 0 c 0 0 Try.underlying22
  go_enter Try.func6, Try.ntmps6
  go_wp2
  go_ret
  exact ⟨rfl, rfl⟩

/-- Half cloned. -/
def half (l : List Int) (n k : Nat) : List Value := ic (l.take k) ++ List.replicate (n - k) (.int .i64 0)

theorem half_at (l : List Int) (n k : Nat) (h : k < n) (hn : l.length = n) : (half l n k)[k]? = some (.int .i64 0) := by
  have e1 : (ic (l.take k)).length = k := by simp [ic]; omega
  unfold half
  rw [List.getElem?_append_right (by omega), e1, Nat.sub_self, show n - k = (n - (k + 1)) + 1 by omega, List.replicate_succ]
  rfl

theorem half_set (l : List Int) (n k : Nat) (h : k < n) (hn : l.length = n) : (half l n k).set k (.int .i64 (l.getD k 0)) = half l n (k + 1) := by
  have hk : k < l.length := by omega
  unfold half
  rw [List.set_append_right _ _ (by simp [ic]; omega)]
  have e1 : (ic (l.take k)).length = k := by simp [ic]; omega
  rw [e1, Nat.sub_self, show n - k = (n - (k + 1)) + 1 by omega, List.replicate_succ, List.set_cons_zero, List.take_add_one]
  unfold ic
  rw [List.map_append, List.append_assoc]
  simp [hk]

set_option maxHeartbeats 400000 in
theorem clone_some (b o c : Nat) (l : List Int) (n : Nat) (hn : l.length = n) (hl : n ≤ 1048576) (w : World)
    (hc : ∀ i, i < n → w.cell? ⟨b, o + i, none⟩ = some (.int .i64 (l.getD i 0))) :
    Calls Try.prog 6 #[.slice (some ⟨b, o, none⟩) n c] w fun e w' => e = .returned (.slice (some ⟨w.heap.size, 0, none⟩) n n) ∧ w'.ownsRow w.heap.size 3 1 (.slice (some ⟨w.heap.size, 0, none⟩) n n) n (ic l) ∧ Below w.heap.size w w' := by
  obtain ⟨i0, hi, hz0, hz1, hz2⟩ := info_parts infoInt
  have hnil := fun (wx : World) => Lib.run_eql_slice_nil (P := Try.prog) wx 22 3 (some ⟨b, o, none⟩) n c 0 0 Try.underlying22
  have HN : Hid (l.length = n) := hn
  clear hn
  go_enter Try.func6, Try.ntmps6
  go_wp2_with (at_make; refine wpList_make_full w rfl _ _ 22 rfl w.heap.size 3 i0 (.int .i64 0) 1 Try.underlying22 hi hz0 hz1 .i64 .i64 _ _ n rfl rfl rfl rfl ?b2 ?b3 (Nat.le_refl _) ?_)
  case b2 => rw [hz2]; omega
  case b3 => unfold maxLen; omega
  intro w1 hown1 hg1
  have hb1 : Below w.heap.size w w1 := (Below.refl _ _).grown hg1 (Nat.le_refl _) (fun k hk => by cases hk)
  go_wp2
  go_loopw [4] (fun i wr => ∃ k : Nat, k ≤ n ∧ i = .int .i64 k ∧ wr.ownsRow w.heap.size 3 1 (.slice (some ⟨w.heap.size, 0, none⟩) n n) n (half l n k) ∧ Below w.heap.size w wr) (fun i _ => n - (intOf i).toNat)
  case atStart =>
    refine ⟨0, Nat.zero_le _, rfl, ?_, hb1⟩
    have e0 : (madeCells #[Value.int IntKind.i64 0] n).toList = half l n 0 := by
      rw [toList_madeCells_one]
      simp [half, ic]
    rw [← e0]; exact hown1
  case round =>
    obtain ⟨k, hk, rfl, hown, hb⟩ := hrel
    by_cases hlt : k < n
    · have ck : wr.cell? ⟨b, o + k, none⟩ = some (.int .i64 (l.getD k 0)) := (hb.cell (p := ⟨b, o + k, none⟩) (World.block_lt_of_cell? w ⟨b, o + k, none⟩ (hc k hlt))).trans (hc k hlt)
      have cg : wr.cell? ⟨w.heap.size, k, none⟩ = some (.int .i64 0) := by
        rw [hown.cellAt k (by omega)]
        exact half_at l n k hlt HN.out
      have fz := hown.frozenAt k
      have HO := hown.stored k (.int .i64 (l.getD k 0))
      rw [half_set l n k hlt HN.out] at HO
      go_wp2
      go_roundw
      case rel => exact ⟨k + 1, by omega, by go_num, by simpa using HO.1, hb.setCell (Nat.le_refl _) _⟩
      case measure => simp [intOf]; omega
    · obtain rfl : k = n := by omega
      go_wp2
      go_ret
      refine ⟨rfl, ?_, hb⟩
      have e : half l k k = ic l := by simp [half, List.take_of_length_le (Nat.le_of_eq HN.out)]
      rw [e] at hown
      exact hown

set_option maxHeartbeats 400000 in
theorem clone_empty (a : Addr) (c : Nat) (w : World) :
    Calls Try.prog 6 #[.slice (some a) 0 c] w fun e w' => e = .returned (.slice (some ⟨w.heap.size, 0, none⟩) 0 0) ∧ w'.ownsRow w.heap.size 3 1 (.slice (some ⟨w.heap.size, 0, none⟩) 0 0) 0 (ic []) ∧ Below w.heap.size w w' := by
  obtain ⟨i0, hi, hz0, hz1, hz2⟩ := info_parts infoInt
  have hnil := fun (wx : World) => Lib.run_eql_slice_nil (P := Try.prog) wx 22 3 (some a) 0 c 0 0 Try.underlying22
  go_enter Try.func6, Try.ntmps6
  go_wp2_with (at_make; refine wpList_make_full w rfl _ _ 22 rfl w.heap.size 3 i0 (.int .i64 0) 1 Try.underlying22 hi hz0 hz1 .i64 .i64 _ _ 0 rfl rfl rfl rfl ?b2 ?b3 (Nat.le_refl _) ?_)
  case b2 => simp
  case b3 => simp
  intro w1 hown1 hg1
  have hb1 : Below w.heap.size w w1 := (Below.refl _ _).grown hg1 (Nat.le_refl _) (fun k hk => by cases hk)
  have e0 : (madeCells #[Value.int IntKind.i64 0] 0).toList = ic [] := by rw [toList_madeCells_one]; rfl
  rw [e0] at hown1
  go_wp2
  go_loop [4] (fun i => i = .int .i64 0) (fun _ => 0)
  case atStart => rfl
  case round =>
    subst hrel
    go_wp2
    go_ret
    exact ⟨rfl, hown1, hb1⟩

/-- zzCloneInts: a new row of the call's own with the same numbers (nil for nil). -/
theorem clone_any (v : Value) (l : List Int) (n : Nat) (hn : l.length = n) (hl : n ≤ 1048576) (w : World) (hv : Rd w v l) :
    Calls Try.prog 6 #[v] w fun e w' => ∃ a, e = .returned (.slice a n n) ∧ w'.ownsRow w.heap.size 3 1 (.slice a n n) l.length (ic l) ∧ Below w.heap.size w w' := by
  rcases hv with ⟨rfl, a, c, rfl⟩ | ⟨b, o, c, rfl, hc⟩
  · obtain rfl : n = 0 := hn.symm
    cases a with
    | none =>
      refine (clone_nil c w).mono fun e w' ⟨he, hw⟩ => ?_
      subst hw
      exact ⟨none, he, World.ownsRow_nil _ _ _ _, Below.refl _ _⟩
    | some a => exact (clone_empty a c w).mono fun e w' ⟨he, ho, hb⟩ => ⟨_, he, ho, hb⟩
  · rw [hn] at hc ⊢
    exact (clone_some b o c l n hn hl w hc).mono fun e w' ⟨he, ho, hb⟩ => ⟨_, he, ho, hb⟩

/-! ### (*Term).sum -/
theorem wrap_is (n : Int) : wrap64 n = wr n := by unfold wrap64 wr; rfl

theorem ws_step (l : List Int) (n k : Nat) (hn : l.length = n) (hk : k < n) : wr (ws (l.take k) + l.getD k 0) = ws (l.take (k + 1)) := by
  have hk : k < l.length := by omega
  rw [← ws_snoc, List.take_add_one]
  simp [hk]

set_option maxHeartbeats 400000 in
theorem sum_some (tb b o c : Nat) (l : List Int) (n : Nat) (hn : l.length = n) (hl : n ≤ 1048576) (neg : Bool) (w : World)
    (hneg : w.cell? ⟨tb, 2, none⟩ = some (.bool neg))
    (hc : ∀ i, i < n → w.cell? ⟨b, o + i, none⟩ = some (.int .i64 (l.getD i 0))) :
    Calls Try.prog 14 #[.pointer (some ⟨tb, 0, none⟩), .slice (some ⟨b, o, none⟩) n c] w fun e w' => e = .returned (.int .i64 (sg neg l)) ∧ w' = w := by
  have HN : Hid (l.length = n) := hn
  clear hn
  go_enter Try.func14, Try.ntmps14
  go_wp2
  go_loop [5, 10] (fun s i => ∃ k : Nat, k ≤ n ∧ i = .int .i64 k ∧ s = .int .i64 (ws (l.take k))) (fun _ i => n - (intOf i).toNat)
  case atStart => exact ⟨0, Nat.zero_le _, rfl, by rw [List.take_zero, ws_nil]⟩
  case round =>
    obtain ⟨k, hk, rfl, rfl⟩ := hrel
    by_cases hlt : k < n
    · have ck := hc k hlt
      have HS : Hid (wr (ws (l.take k) + l.getD k 0) = ws (l.take (k + 1))) := ws_step l n k HN.out hlt
      go_wp2
      go_round
      case rel => exact ⟨k + 1, by omega, by go_num, by rw [← HS.out]; simp [wrap_is]⟩
      case measure => simp [intOf]; omega
    · obtain rfl : k = n := by omega
      have HE : Hid (l.take k = l) := List.take_of_length_le (Nat.le_of_eq HN.out)
      cases neg
      all_goals
        go_wp2
        go_ret
        exact ⟨ret_int (by rw [HE.out]; simp [sg, wrap_is]), rfl⟩

set_option maxHeartbeats 400000 in
theorem sum_none (tb : Nat) (a : Option Addr) (c : Nat) (neg : Bool) (w : World) (hneg : w.cell? ⟨tb, 2, none⟩ = some (.bool neg)) :
    Calls Try.prog 14 #[.pointer (some ⟨tb, 0, none⟩), .slice a 0 c] w fun e w' => e = .returned (.int .i64 (sg neg [])) ∧ w' = w := by
  go_enter Try.func14, Try.ntmps14
  go_wp2
  go_loop [5, 10] (fun s i => i = .int .i64 0 ∧ s = .int .i64 0) (fun _ _ => 0)
  case atStart => exact ⟨rfl, rfl⟩
  case round =>
    obtain ⟨rfl, rfl⟩ := hrel
    cases neg
    all_goals
      go_wp2
      go_ret
      exact ⟨ret_int (by decide), rfl⟩

/-- (*Term).sum: the sum, with the term's sign. -/
theorem sum_any (tb : Nat) (v : Value) (l : List Int) (hl : l.length ≤ 1048576) (neg : Bool) (w : World) (hneg : w.cell? ⟨tb, 2, none⟩ = some (.bool neg)) (hv : Rd w v l) :
    Calls Try.prog 14 #[.pointer (some ⟨tb, 0, none⟩), v] w fun e w' => e = .returned (.int .i64 (sg neg l)) ∧ w' = w := by
  rcases hv with ⟨rfl, a, c, rfl⟩ | ⟨b, o, c, rfl, hc⟩
  · exact sum_none tb a c neg w hneg
  · exact sum_some tb b o c l l.length rfl hl neg w hneg hc

end Go.Proofs.Qxb6625640a
