import Derived.Test.Qxb6625640aOwn
/-! The walk of zzInsertionSorted. -/
namespace Go.Proofs.Qxb6625640a
open Go.RowKit

/-- The row while x is carried down: the place j is free. -/
def inn (S : List Int) (rest : List Int) (j : Nat) (y : Int) : List Int := S.take j ++ y :: (S.drop j ++ rest)

theorem inn_length {S rest : List Int} {j : Nat} {y : Int} (hj : j ≤ S.length) : (inn S rest j y).length = S.length + 1 + rest.length := by simp [inn]; omega

theorem inn_start (S l : List Int) (i : Nat) (hS : S.length = i) (hi : i < l.length) : S ++ l.drop i = inn S (l.drop (i + 1)) i (l.getD i 0) := by
  unfold inn
  have e1 : S.take i = S := List.take_of_length_le (by omega)
  have e2 : S.drop i = [] := List.drop_eq_nil_of_le (by omega)
  rw [e1, e2, List.drop_eq_getElem_cons hi]
  simp [hi]

/-- What lies at j - 1. -/
theorem inn_prev {S rest : List Int} {j : Nat} {y : Int} (h0 : 0 < j) (hj : j ≤ S.length) : (inn S rest j y)[j - 1]? = some (S.getD (j - 1) 0) := by
  unfold inn
  rw [List.getElem?_append_left (by simp; omega)]
  simp [show j - 1 < j by omega, show j - 1 < S.length by omega]

theorem inn_at {S rest : List Int} {j : Nat} {y : Int} (hj : j ≤ S.length) : (inn S rest j y)[j]? = some y := by
  unfold inn
  rw [List.getElem?_append_right (by simp; omega)]
  simp [Nat.min_eq_left hj]

theorem inn_set {S rest : List Int} {j : Nat} {y z : Int} (hj : j ≤ S.length) : (inn S rest j y).set j z = inn S rest j z := by
  unfold inn
  rw [List.set_append_right _ _ (by simp; omega)]
  simp [Nat.min_eq_left hj]

theorem inn_down {S rest : List Int} {j : Nat} (h0 : 0 < j) (hj : j ≤ S.length) : inn S rest j (S.getD (j - 1) 0) = inn S rest (j - 1) (S.getD (j - 1) 0) := by
  unfold inn
  have e1 : S.take j = S.take (j - 1) ++ [S.getD (j - 1) 0] := by
    conv => lhs; rw [show j = (j - 1) + 1 by omega]
    rw [List.take_add_one]
    simp [show j - 1 < S.length by omega]
  have e2 : S.drop (j - 1) = S.getD (j - 1) 0 :: S.drop j := by
    rw [List.drop_eq_getElem_cons (by omega), show j - 1 + 1 = j by omega]
    simp [show j - 1 < S.length by omega]
  rw [e1, e2]
  simp

/-- x is in its place. -/
theorem inn_done (S rest : List Int) (j : Nat) (x : Int) : inn S rest j x = (S.take j ++ x :: S.drop j) ++ rest := by simp [inn]

/-- All from j on are greater than x. -/
def Above (S : List Int) (x : Int) (j : Nat) : Prop := ∀ t, j ≤ t → (h : t < S.length) → x < S[t]

theorem Above.down {S : List Int} {x : Int} {j : Nat} (h : Above S x j) (hj : 0 < j) (hx : x < S.getD (j - 1) 0) : Above S x (j - 1) := by
  intro t ht hlt
  by_cases e : t = j - 1
  · subst e; simpa [hlt] using hx
  · exact h t (by omega) hlt

theorem own_cell {w : World} {B g n : Nat} {L : List Int} (h : w.ownsRow B 3 1 (.slice (some ⟨g, 0, none⟩) n n) n (ic L)) {j : Nat} {y : Int} (hj : j < n) (hy : L[j]? = some y) : w.cell? ⟨g, j, none⟩ = some (.int .i64 y) := by
  rw [h.cellAt j (by omega)]
  simp [ic, hy]

theorem own_store {w : World} {B g n : Nat} {L : List Int} (h : w.ownsRow B 3 1 (.slice (some ⟨g, 0, none⟩) n n) n (ic L)) (j : Nat) (y : Int) :
    (w.setCell ⟨g, j, none⟩ (.int .i64 y)).ownsRow B 3 1 (.slice (some ⟨g, 0, none⟩) n n) n (ic (L.set j y)) := by
  have := (h.stored j (.int .i64 y)).1
  unfold ic at *
  rwa [List.map_set]

theorem pw_one (l : List Int) : (l.take 1).Pairwise (· ≤ ·) := by
  cases l with
  | nil => simp
  | cons x r => simp

/-- What the inner loop keeps. -/
structure Inner (w wr : World) (g n : Nat) (S rest : List Int) (x : Int) (j : Nat) (y : Int) : Prop where
  row : wr.ownsRow w.heap.size 3 1 (.slice (some ⟨g, 0, none⟩) n n) n (ic (inn S rest j y))
  above : Above S x j
  bel : Below w.heap.size w wr

theorem Inner.down {w wr : World} {g n : Nat} {S rest : List Int} {x y : Int} {t : Nat} (h : Inner w wr g n S rest x (t + 1) y) (hS : t + 1 ≤ S.length) (hg : w.heap.size ≤ g) (hx : x < S.getD t 0) :
    Inner w (wr.setCell ⟨g, t + 1, none⟩ (.int .i64 (S.getD t 0))) g n S rest x t (S.getD t 0) := by
  refine ⟨?_, h.above.down (by omega) (by simpa using hx), h.bel.setCell hg _⟩
  have := own_store h.row (t + 1) (S.getD t 0)
  rw [inn_set hS] at this
  have e := inn_down (S := S) (rest := rest) (j := t + 1) (by omega) hS
  rw [Nat.add_sub_cancel] at e
  rwa [e] at this

theorem Inner.put {w wr : World} {g n : Nat} {S rest : List Int} {x y : Int} {j : Nat} (h : Inner w wr g n S rest x j y) (hS : j ≤ S.length) :
    (wr.setCell ⟨g, j, none⟩ (.int .i64 x)).ownsRow w.heap.size 3 1 (.slice (some ⟨g, 0, none⟩) n n) n (ic (inn S rest j x)) := by
  have := own_store h.row j x
  rwa [inn_set hS] at this

/-- What the outer loop keeps. -/
structure Outer (w wr : World) (g n : Nat) (l : List Int) (i : Nat) (S : List Int) : Prop where
  len : S.length = i
  row : wr.ownsRow w.heap.size 3 1 (.slice (some ⟨g, 0, none⟩) n n) n (ic (S ++ l.drop i))
  sorted : S.Pairwise (· ≤ ·)
  perm : S.Perm (l.take i)
  bel : Below w.heap.size w wr

theorem Outer.next {w wr : World} {g n : Nat} {l : List Int} {i : Nat} {S : List Int} (h : Outer w wr g n l i S) (hi : i < l.length) {j : Nat} (hj : j ≤ i) (ha : Above S (l.getD i 0) j)
    (hle : ∀ _ : 0 < j, S.getD (j - 1) 0 ≤ l.getD i 0) {w2 : World} (ho : w2.ownsRow w.heap.size 3 1 (.slice (some ⟨g, 0, none⟩) n n) n (ic (inn S (l.drop (i + 1)) j (l.getD i 0)))) (hb : Below w.heap.size w w2) :
    Outer w w2 g n l (i + 1) (S.take j ++ l.getD i 0 :: S.drop j) := by
  have hS := h.len
  refine ⟨by simp; omega, by rw [← inn_done]; exact ho, ?_, ?_, hb⟩
  · refine insert_sorted h.sorted (by omega) ha (fun h0 => ?_)
    have := hle h0
    simpa [show j - 1 < S.length by omega] using this
  · refine (insert_perm S _ j).trans ?_
    rw [List.take_add_one]
    have : l[i]?.toList = [l.getD i 0] := by simp [hi]
    rw [this]
    exact h.perm.append_right _

set_option maxHeartbeats 2000000 in
theorem ins_some (a : Option Addr) (c : Nat) (l : List Int) (n : Nat) (hn : l.length = n) (h1 : 1 ≤ n) (hl : n ≤ 1048576) (w : World) (hv : Rd w (.slice a n c) l) :
    Calls Try.prog 10 #[.slice a n c] w fun e w' => ∃ g, e = .returned (.slice (some ⟨g, 0, none⟩) n n) ∧ Own w' w.heap.size (some ⟨g, 0, none⟩) n (srt l) ∧ Below w.heap.size w w' := by
  have HN : Hid (l.length = n) := hn
  clear hn
  go_enter Try.func10, Try.ntmps10
  go_wp2_with (go_at_call 6; refine (clone_own _ l n HN.out hl _ hv).mono ?_; rintro e w1 ⟨a1, rfl, o1, b1⟩; refine Hid.out ?_)
  refine Lib.hid ?_
  rcases o1.form with ⟨-, h0, -⟩ | ⟨g, rfl⟩
  · omega
  have hO : Outer w w1 g n l 1 (l.take 1) := by
    have hlt : l.length = n := HN.out
    refine ⟨by simp; omega, by rw [List.take_append_drop]; exact o1.row, pw_one l, List.Perm.refl _, b1⟩
  clear o1 b1 hv
  go_wp2
  go_loopw [4] (fun s wr => ∃ (i : Nat) (S : List Int), 1 ≤ i ∧ i ≤ n ∧ s = .int .i64 i ∧ Outer w wr g n l i S) (fun s _ => n - (intOf s).toNat)
  case atStart => exact ⟨1, l.take 1, by omega, h1, rfl, hO⟩
  case round =>
    obtain ⟨i, S, hi1, hi2, rfl, hO⟩ := hrel
    obtain ⟨wo, rfl⟩ : ∃ wo : World, wo = wr := ⟨_, rfl⟩
    by_cases hlt : i < n
    · obtain ⟨x, hx⟩ : ∃ x, l.getD i 0 = x := ⟨_, rfl⟩
      have HX : Hid (l.getD i 0 = x) := hx
      have hil : i < l.length := by rw [HN.out]; exact hlt
      have hrow : wo.ownsRow w.heap.size 3 1 (.slice (some ⟨g, 0, none⟩) n n) n (ic (inn S (l.drop (i + 1)) i x)) := by
        rw [← hx, ← inn_start S l i hO.len hil]; exact hO.row
      have cx : wo.cell? ⟨g, i, none⟩ = some (.int .i64 x) := own_cell hrow hlt (inn_at (by rw [hO.len]; exact Nat.le_refl _))
      have HO : Hid (Outer w wo g n l i S) := hO
      have HR : Hid (wo.ownsRow w.heap.size 3 1 (.slice (some ⟨g, 0, none⟩) n n) n (ic (inn S (l.drop (i + 1)) i x))) := hrow
      have HIL : Hid (i < l.length) := hil
      clear hO hrow hx hil
      have hI : Inner w wo g n S (l.drop (i + 1)) x i x := ⟨HR.out, fun t ht h => by have := HO.out.len; omega, HO.out.bel⟩
      have hgB : w.heap.size ≤ g := (HR.out.lt g rfl).1
      clear HR
      go_wp2_with fail
      go_loopw [6] (fun s wr => ∃ (j : Nat) (y : Int), j ≤ i ∧ s = .int .i64 j ∧ Inner w wr g n S (l.drop (i + 1)) x j y) (fun s _ => (intOf s).toNat)
      case atStart => exact ⟨i, x, Nat.le_refl _, rfl, hI⟩
      case round =>
        clear hI cx
        obtain ⟨j, y, hj, rfl, hI⟩ := hrel
        have hSl : j ≤ S.length := by rw [HO.out.len]; exact hj
        have cj : wr.cell? ⟨g, j, none⟩ = some (.int .i64 y) := own_cell hI.row (by omega) (inn_at hSl)
        have fj : wr.frozen? ⟨g, j, none⟩ = false := hI.row.frozenAt j
        have HI : Hid (Inner w wr g n S (l.drop (i + 1)) x j y) := hI
        have HSL : Hid (j ≤ S.length) := hSl
        have hput := hI.put hSl
        have HP : Hid ((wr.setCell ⟨g, j, none⟩ (.int .i64 x)).ownsRow w.heap.size 3 1 (.slice (some ⟨g, 0, none⟩) n n) n (ic (inn S (l.drop (i + 1)) j x))) := hput
        have HB : Hid (Below w.heap.size w (wr.setCell ⟨g, j, none⟩ (.int .i64 x))) := hI.bel.setCell hgB _
        clear hI hSl hput
        cases j with
        | zero =>
          have hO2 := HO.out.next HIL.out (j := 0) (Nat.zero_le _) (by rw [HX.out]; exact HI.out.above) (fun h => by omega) (by rw [HX.out]; exact HP.out) HB.out
          have HO2 : Hid (Outer w (wr.setCell ⟨g, 0, none⟩ (.int .i64 x)) g n l (i + 1) (S.take 0 ++ l.getD i 0 :: S.drop 0)) := hO2
          clear hO2
          go_wp2
          go_roundw
          case rel => exact ⟨i + 1, _, by omega, by omega, by go_num, HO2.out⟩
          case measure => simp [intOf]; omega
        | succ t =>
          obtain ⟨z, hz⟩ : ∃ z, S.getD t 0 = z := ⟨_, rfl⟩
          have HZ : Hid (S.getD t 0 = z) := hz
          have ct : wr.cell? ⟨g, t, none⟩ = some (.int .i64 z) := by
            rw [← hz]
            refine own_cell HI.out.row (by omega) ?_
            have := inn_prev (S := S) (rest := l.drop (i + 1)) (y := y) (j := t + 1) (by omega) HSL.out
            simpa using this
          clear hz
          by_cases hxz : x < z
          · have hD := HI.out.down HSL.out hgB (by rw [HZ.out]; exact hxz)
            rw [HZ.out] at hD
            have HD : Hid (Inner w (wr.setCell ⟨g, t + 1, none⟩ (.int .i64 z)) g n S (l.drop (i + 1)) x t z) := hD
            clear hD
            go_wp2
            go_roundw
            case rel => exact ⟨t, z, by omega, by go_num, HD.out⟩
            case measure => simp [intOf]
          · have hO2 := HO.out.next HIL.out (j := t + 1) hj (by rw [HX.out]; exact HI.out.above) (fun h => by rw [HX.out, Nat.add_sub_cancel, HZ.out]; omega) (by rw [HX.out]; exact HP.out) HB.out
            have HO2 : Hid (Outer w (wr.setCell ⟨g, t + 1, none⟩ (.int .i64 x)) g n l (i + 1) (S.take (t + 1) ++ l.getD i 0 :: S.drop (t + 1))) := hO2
            clear hO2
            go_wp2
            go_roundw
            case rel => exact ⟨i + 1, _, by omega, by omega, by go_num, HO2.out⟩
            case measure => simp [intOf]; omega
    · obtain rfl : i = n := by omega
      have HO : Hid (Outer w wo g i l i S) := hO
      clear hO
      go_wp2
      go_ret
      have h := HO.out
      have e0 : l.drop i = [] := List.drop_eq_nil_of_le (by rw [HN.out]; exact Nat.le_refl _)
      have e1 : l.take i = l := List.take_of_length_le (by rw [HN.out]; exact Nat.le_refl _)
      have hr := h.row
      have hp := h.perm
      rw [e0, List.append_nil] at hr
      rw [e1] at hp
      have es : S = srt l := srt_of hp h.sorted
      subst es
      exact ⟨g, rfl, ⟨hr, h.len⟩, h.bel⟩

set_option maxHeartbeats 400000 in
theorem ins_none (a : Option Addr) (c : Nat) (w : World) :
    Calls Try.prog 10 #[.slice a 0 c] w fun e w' => ∃ b, e = .returned (.slice b 0 0) ∧ Own w' w.heap.size b 0 (srt []) ∧ Below w.heap.size w w' := by
  rw [srt_nil]
  go_enter Try.func10, Try.ntmps10
  go_wp2_with (go_at_call 6; refine (clone_own _ [] 0 rfl (by omega) _ (.inl ⟨rfl, _, _, rfl⟩)).mono ?_; rintro e w1 ⟨a1, rfl, o1, b1⟩; refine Hid.out ?_)
  refine Lib.hid ?_
  go_wp2
  go_loop [4] (fun s => s = .int .i64 1) (fun _ => 0)
  case atStart => rfl
  case round =>
    subst hrel
    go_wp2
    go_ret
    exact ⟨_, rfl, o1, b1⟩

/-- zzInsertionSorted: a new row with the same numbers, sorted. -/
theorem ins_any (a : Option Addr) (c : Nat) (l : List Int) (n : Nat) (hn : l.length = n) (hl : n ≤ 1048576) (w : World) (hv : Rd w (.slice a n c) l) :
    Calls Try.prog 10 #[.slice a n c] w fun e w' => ∃ b, e = .returned (.slice b n n) ∧ Own w' w.heap.size b n (srt l) ∧ Below w.heap.size w w' := by
  by_cases h1 : 1 ≤ n
  · exact (ins_some a c l n hn h1 hl w hv).mono fun e w' ⟨g, he, ho, hb⟩ => ⟨_, he, ho, hb⟩
  · obtain rfl : n = 0 := by omega
    obtain rfl : l = [] := List.eq_nil_of_length_eq_zero hn
    exact ins_none a c w

end Go.Proofs.Qxb6625640a
