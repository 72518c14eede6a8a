import Derived.Test.Qxb6625640aSmall
import Derived.Test.Qxb6625640aShelf
/-! The walk of (*Term).value: sort, cut, sum. -/
namespace Go.Proofs.Qxb6625640a
open Go.RowKit

theorem sort_world {w w' : World} {B g n m : Nat} {zs : List Int} {os : Array Obj} (hn : zs.length = n) (h : w.ownsRow B 3 1 (.slice (some ⟨g, 0, none⟩) n n) n (ic zs))
    (hw : w' = Sort.grow (Sort.putRow (Value.int .i64) (Sort.ahead w m) g 0 (srt zs).toArray) os) :
    w'.ownsRow B 3 1 (.slice (some ⟨g, 0, none⟩) n n) n (ic (srt zs)) ∧ w.grownBy w' (some g) := by
  have hg := (h.lt g rfl).2
  have hb : ∀ k, k < w.heap.size → w'.heap[k]? = (Sort.putRow (Value.int .i64) (Sort.ahead w m) g 0 (srt zs).toArray).heap[k]? := by
    intro k hk
    subst hw
    show ((Sort.putRow (Value.int .i64) (Sort.ahead w m) g 0 (srt zs).toArray).heap ++ os)[k]? = _
    exact Array.getElem?_append_left (by simpa using hk)
  rcases h.2 with ⟨h', _⟩ | ⟨g', cap', cur, h', hBg, hh, hnc, hcm, hcs, htake⟩
  · simp at h'
  simp only [Value.slice.injEq, Option.some.injEq, Addr.mk.injEq, and_true, true_and] at h'
  obtain ⟨rfl, rfl⟩ := h'
  constructor
  · refine ⟨by simp [ic, srt_length, hn], .inr ⟨g, n, Sort.putCells (Value.int .i64) 0 (srt zs).toArray cur, rfl, hBg, ?_, Nat.le_refl _, hcm, ?_, ?_⟩⟩
    · rw [hb g hg]
      show ((Sort.ahead w m).heap.modify g _)[g]? = _
      rw [Array.getElem?_modify, if_pos rfl]
      show (w.heap[g]?).map _ = _
      rw [hh]
      rfl
    · simpa [Sort.putCells] using hcs
    · have hsl : (srt zs).length = n := by rw [srt_length, hn]
      apply List.ext_getElem?
      intro i
      by_cases hi : i < n
      · have h1 : i < cur.size := by omega
        simp [Sort.putCells, ic, hi, h1, hsl]
      · rw [List.getElem?_take, if_neg (by omega), List.getElem?_eq_none (by simp [ic, hsl]; omega)]
  · subst hw
    refine ⟨rfl, rfl, rfl, ?_, fun k hk hne => ?_⟩
    · simp [Sort.grow]
    · rw [hb k hk]
      show ((Sort.ahead w m).heap.modify g _)[k]? = _
      rw [Array.getElem?_modify, if_neg (fun e => hne (by rw [e]))]
      rfl

/-- slices.Sort of a row of the call's own. -/
theorem sort_own (B g n : Nat) (zs : List Int) (hn : zs.length = n) (hl : n ≤ 1048576) (w : World) (h : w.ownsRow B 3 1 (.slice (some ⟨g, 0, none⟩) n n) n (ic zs)) :
    Calls Try.prog 13 #[.slice (some ⟨g, 0, none⟩) n n] w fun e w' => e = .returned (.tuple #[]) ∧ w'.ownsRow B 3 1 (.slice (some ⟨g, 0, none⟩) n n) n (ic (srt zs)) ∧ w.grownBy w' (some g) := by
  subst hn
  refine (Try.slices_Sort_int g 0 zs.length zs w ?_ (h.lt g rfl).2 (by omega)).mono fun e w' ⟨he, m, os, hw⟩ => ?_
  · intro j hj
    have hj' : j < zs.length := by simpa using hj
    refine ⟨?_, ?_⟩
    · rw [Nat.zero_add, h.cellAt j (by omega)]
      simp [ic, hj']
    · rw [Nat.zero_add]; exact h.frozenAt j
  · exact ⟨he, sort_world rfl h hw⟩

/-- The term's cells that are read. -/
structure TermAt (w : World) (tb : Nat) (neg : Bool) (mode N : Int) : Prop where
  neg : w.cell? ⟨tb, 2, none⟩ = some (.bool neg)
  mode : w.cell? ⟨tb, 5, none⟩ = some (.int .i64 mode)
  num : w.cell? ⟨tb, 6, none⟩ = some (.int .i64 N)

set_option maxHeartbeats 400000 in
theorem val_all (tb : Nat) (v : Value) (l : List Int) (hl : l.length ≤ 1048576) (neg : Bool) (N : Int) (w : World) (ht : TermAt w tb neg 0 N) (hv : Rd w v l) :
    Calls Try.prog 12 #[.pointer (some ⟨tb, 0, none⟩), v] w fun e w' => e = .returned (.int .i64 (sg neg l)) ∧ w = w' := by
  obtain ⟨h1, h2, h3⟩ := ht
  go_enter Try.func12, Try.ntmps12
  go_wp2_with (go_at_call 14; refine (sum_any tb v l hl neg w h1 hv).mono ?_; rintro e w' ⟨rfl, rfl⟩)
  go_ret
  exact ⟨rfl, rfl⟩

theorem own_rd_drop {w : World} {B g d k : Nat} {l : List Int} (hn : l.length = d + k) (h : w.ownsRow B 3 1 (.slice (some ⟨g, 0, none⟩) (d + k) (d + k)) (d + k) (ic l)) : Rd w (.slice (some ⟨g, d, none⟩) k k) (l.drop d) := by
  refine .inr ⟨g, d, k, by simp [hn], fun i hi => ?_⟩
  have hi' : i < k := by simp [hn] at hi; exact hi
  rw [h.cellAt (d + i) (by omega)]
  simp [ic, show d + i < l.length by omega]

theorem own_rd_take {w : World} {B g d k : Nat} {l : List Int} (hn : l.length = d + k) (h : w.ownsRow B 3 1 (.slice (some ⟨g, 0, none⟩) (d + k) (d + k)) (d + k) (ic l)) (c : Nat) : Rd w (.slice (some ⟨g, 0, none⟩) k c) (l.take k) := by
  have hk : (l.take k).length = k := by simp; omega
  refine .inr ⟨g, 0, c, by rw [hk], fun i hi => ?_⟩
  rw [hk] at hi
  rw [Nat.zero_add, h.cellAt i (by omega)]
  simp [ic, show i < l.length by omega, hi]

set_option maxHeartbeats 1000000 in
theorem val_hi (tb B g d k : Nat) (zs : List Int) (hn : zs.length = d + k) (hl : d + k ≤ 1048576) (neg : Bool) (w : World) (ht : TermAt w tb neg 1 k) (htg : tb ≠ g)
    (h : w.ownsRow B 3 1 (.slice (some ⟨g, 0, none⟩) (d + k) (d + k)) (d + k) (ic zs)) :
    Calls Try.prog 12 #[.pointer (some ⟨tb, 0, none⟩), .slice (some ⟨g, 0, none⟩) (d + k) (d + k)] w fun e w' => e = .returned (.int .i64 (sg neg ((srt zs).drop d))) ∧ w'.ownsRow B 3 1 (.slice (some ⟨g, 0, none⟩) (d + k) (d + k)) (d + k) (ic (srt zs)) ∧ w.grownBy w' (some g) := by
  obtain ⟨h1, h2, h3⟩ := ht
  have HN : Hid (zs.length = d + k) := hn
  clear hn
  go_enter Try.func12, Try.ntmps12
  go_wp2_with (go_at_call 13; refine (sort_own B g (d + k) zs HN.out hl w h).mono ?_; rintro e w1 ⟨rfl, ho1, hg1⟩; refine Hid.out ?_)
  refine Lib.hid ?_
  have h1' := hg1.cell h1 (by simpa using htg)
  have h2' := hg1.cell h2 (by simpa using htg)
  have h3' := hg1.cell h3 (by simpa using htg)
  have HO : Hid (w1.ownsRow B 3 1 (.slice (some ⟨g, 0, none⟩) (d + k) (d + k)) (d + k) (ic (srt zs))) := ho1
  have HG : Hid (w.grownBy w1 (some g)) := hg1
  clear ho1 hg1 h h1 h2 h3 htg
  have hsl : (srt zs).length = d + k := by rw [srt_length]; exact HN.out
  have HSL : Hid ((srt zs).length = d + k) := hsl
  have hdl : ((srt zs).drop d).length ≤ 1048576 := by simp [hsl]; omega
  clear hsl
  go_wp2_with fail
  · have hk0 : k = 0 := by omega
    have e : (srt zs).drop d = [] := List.drop_eq_nil_of_le (by rw [HSL.out]; omega)
    have hr : Rd w1 (.slice (some ⟨g, 0, none⟩) 0 0) ((srt zs).drop d) := .inl ⟨e, _, _, rfl⟩
    have HK : Hid (k = 0) := hk0
    clear hk0 e
    refine (sum_any tb _ _ hdl neg w1 h1' hr).mono ?_
    rintro e w' ⟨rfl, rfl⟩
    go_wp2
    go_ret
    exact ⟨rfl, HO.out, HG.out⟩
  · have hr := own_rd_drop HSL.out HO.out
    refine (sum_any tb _ _ hdl neg w1 h1' hr).mono ?_
    rintro e w' ⟨rfl, rfl⟩
    go_wp2
    go_ret
    exact ⟨rfl, HO.out, HG.out⟩

set_option maxHeartbeats 1000000 in
theorem val_lo (tb B g d k : Nat) (zs : List Int) (hn : zs.length = d + k) (hl : d + k ≤ 1048576) (neg : Bool) (w : World) (ht : TermAt w tb neg 2 k) (htg : tb ≠ g)
    (h : w.ownsRow B 3 1 (.slice (some ⟨g, 0, none⟩) (d + k) (d + k)) (d + k) (ic zs)) :
    Calls Try.prog 12 #[.pointer (some ⟨tb, 0, none⟩), .slice (some ⟨g, 0, none⟩) (d + k) (d + k)] w fun e w' => e = .returned (.int .i64 (sg neg ((srt zs).take k))) ∧ w'.ownsRow B 3 1 (.slice (some ⟨g, 0, none⟩) (d + k) (d + k)) (d + k) (ic (srt zs)) ∧ w.grownBy w' (some g) := by
  obtain ⟨h1, h2, h3⟩ := ht
  have HN : Hid (zs.length = d + k) := hn
  clear hn
  go_enter Try.func12, Try.ntmps12
  go_wp2_with (go_at_call 13; refine (sort_own B g (d + k) zs HN.out hl w h).mono ?_; rintro e w1 ⟨rfl, ho1, hg1⟩; refine Hid.out ?_)
  refine Lib.hid ?_
  have h1' := hg1.cell h1 (by simpa using htg)
  have h2' := hg1.cell h2 (by simpa using htg)
  have h3' := hg1.cell h3 (by simpa using htg)
  have HO : Hid (w1.ownsRow B 3 1 (.slice (some ⟨g, 0, none⟩) (d + k) (d + k)) (d + k) (ic (srt zs))) := ho1
  have HG : Hid (w.grownBy w1 (some g)) := hg1
  clear ho1 hg1 h h1 h2 h3 htg
  have hsl : (srt zs).length = d + k := by rw [srt_length]; exact HN.out
  have HSL : Hid ((srt zs).length = d + k) := hsl
  have hdl : ((srt zs).take k).length ≤ 1048576 := by simp [hsl]; omega
  clear hsl
  go_wp2_with fail
  refine (sum_any tb _ _ hdl neg w1 h1' (own_rd_take HSL.out HO.out _)).mono ?_
  rintro e w' ⟨rfl, rfl⟩
  go_wp2
  go_ret
  exact ⟨rfl, HO.out, HG.out⟩

set_option maxHeartbeats 400000 in
/-- A nil slice: nothing to sort, nothing to add. -/
theorem val_nil (tb : Nat) (neg : Bool) (mode : Int) (hm : mode = 1 ∨ mode = 2) (w : World) (ht : TermAt w tb neg mode 0) :
    Calls Try.prog 12 #[.pointer (some ⟨tb, 0, none⟩), .slice none 0 0] w fun e w' => e = .returned (.int .i64 (sg neg [])) ∧ w = w' := by
  obtain ⟨h1, h2, h3⟩ := ht
  rcases hm with rfl | rfl
  all_goals
    go_enter Try.func12, Try.ntmps12
    go_wp2_with (first | (go_at_call 13; refine (Try.slices_Sort_int_none none 0 w).mono ?_; rintro e w' ⟨rfl, rfl⟩) | (go_at_call 14; refine (sum_none tb none 0 neg _ h1).mono ?_; rintro e w' ⟨rfl, rfl⟩))
    go_ret
    exact ⟨rfl, rfl⟩

end Go.Proofs.Qxb6625640a
