/-! The plain mathematics of kept dice: sums that wrap, ranks, insertion. No Go in sight. -/
namespace Go.Proofs.Qxb6625640a

/-! ### Sums -/
theorem perm_sum {l m : List Int} (h : l.Perm m) : l.sum = m.sum := by
  induction h with
  | nil => rfl
  | cons x _ ih => simp [ih]
  | swap x y l => simp only [List.sum_cons]; omega
  | trans _ _ ih1 ih2 => exact ih1.trans ih2

theorem sum_app (l m : List Int) : (l ++ m).sum = l.sum + m.sum := by
  induction l with
  | nil => simp
  | cons x l ih => simp only [List.cons_append, List.sum_cons, ih]; omega

/-- int64 arithmetic. -/
def wr (n : Int) : Int := (n + 9223372036854775808) % 18446744073709551616 - 9223372036854775808

theorem wr_add_left (a b : Int) : wr (wr a + b) = wr (a + b) := by unfold wr; omega
theorem wr_add_right (a b : Int) : wr (a + wr b) = wr (a + b) := by unfold wr; omega
theorem wr_neg (a : Int) : wr (-(wr a)) = wr (-a) := by unfold wr; omega
theorem wr_lo (a : Int) : -9223372036854775808 ≤ wr a ∧ wr a ≤ 9223372036854775807 := by unfold wr; omega
theorem wr_zero : wr 0 = 0 := by decide

/-- The sum as int64 has it. -/
def ws (l : List Int) : Int := wr l.sum

theorem ws_nil : ws [] = 0 := wr_zero
theorem ws_snoc (l : List Int) (x : Int) : ws (l ++ [x]) = wr (ws l + x) := by
  unfold ws
  rw [sum_app, wr_add_left]
  simp

/-- .. with the term's sign. -/
def sg (neg : Bool) (l : List Int) : Int := if neg then wr (-(ws l)) else ws l

theorem sg_perm (neg : Bool) {l m : List Int} (h : l.Perm m) : sg neg l = sg neg m := by
  unfold sg ws; rw [perm_sum h]

theorem sg_sum (neg : Bool) {l m : List Int} (h : l.sum = m.sum) : sg neg l = sg neg m := by
  unfold sg ws; rw [h]

theorem sg_app (neg : Bool) (l m : List Int) : wr (sg neg l + sg neg m) = sg neg (l ++ m) := by
  unfold sg ws
  cases neg
  · simp only [Bool.false_eq_true, if_false, wr_add_left, wr_add_right, sum_app]
  · simp only [if_true, wr_neg, wr_add_left, wr_add_right, sum_app]
    congr 1; omega

theorem pw_mono {α : Type} {R S : α → α → Prop} {l : List α} (h : l.Pairwise R) (hRS : ∀ x y, R x y → S x y) : l.Pairwise S :=
  List.pairwise_iff_getElem.2 fun i j hi hj hij => hRS _ _ (List.pairwise_iff_getElem.1 h i j hi hj hij)

/-! ### Sorted lists -/
/-- The sorted list. -/
def srt (l : List Int) : List Int := l.mergeSort fun x y => decide (x ≤ y)

theorem srt_perm (l : List Int) : (srt l).Perm l := List.mergeSort_perm l _
theorem srt_length (l : List Int) : (srt l).length = l.length := (srt_perm l).length_eq
theorem srt_sorted (l : List Int) : (srt l).Pairwise (· ≤ ·) := by
  have := List.pairwise_mergeSort (le := fun x y : Int => decide (x ≤ y)) (fun a b c h1 h2 => by simp at *; omega) (fun a b => by simp; omega) l
  exact pw_mono this (by simp)

theorem sorted_unique {l m : List Int} (h : l.Perm m) (hl : l.Pairwise (· ≤ ·)) (hm : m.Pairwise (· ≤ ·)) : l = m :=
  h.eq_of_pairwise (fun a b _ _ h1 h2 => by omega) hl hm

theorem srt_of {l m : List Int} (h : m.Perm l) (hm : m.Pairwise (· ≤ ·)) : m = srt l :=
  sorted_unique (h.trans (srt_perm l).symm) hm (srt_sorted l)

/-- The high part and the low part are all. -/
theorem hi_lo (neg : Bool) (l : List Int) (k : Nat) : wr (sg neg ((srt l).drop (l.length - k)) + sg neg ((srt l).take (l.length - k))) = sg neg l := by
  rw [sg_app]
  refine sg_perm neg ?_
  exact (List.perm_append_comm.trans (by rw [List.take_append_drop])).trans (srt_perm l)

/-! ### Ranks -/
/-- Is the die at j ahead of the die at i, when 'bef' orders the values and ties go by position? -/
def ahd (bef : Int → Int → Bool) (a : List Int) (j i : Nat) : Bool := bef (a.getD j 0) (a.getD i 0) || (a.getD j 0 == a.getD i 0 && decide (j < i))

/-- How many of the first k are ahead of the die at i. -/
def cnt (bef : Int → Int → Bool) (a : List Int) (i k : Nat) : Nat := (List.range k).countP fun j => ahd bef a j i

theorem cnt_zero (bef : Int → Int → Bool) (a : List Int) (i : Nat) : cnt bef a i 0 = 0 := rfl
theorem cnt_succ (bef : Int → Int → Bool) (a : List Int) (i k : Nat) : cnt bef a i (k + 1) = cnt bef a i k + (if ahd bef a k i then 1 else 0) := by
  unfold cnt
  rw [List.range_succ, List.countP_append]
  simp [List.countP_cons]
theorem cnt_le (bef : Int → Int → Bool) (a : List Int) (i k : Nat) : cnt bef a i k ≤ k := by
  have := List.countP_le_length (p := fun j => ahd bef a j i) (l := List.range k)
  simpa [cnt] using this

/-- The kept ones among the first k. -/
def kept (bef : Int → Int → Bool) (a : List Int) (n : Int) (k : Nat) : List Int :=
  ((List.range k).filter fun i => decide (((cnt bef a i a.length : Nat) : Int) < n)).map fun i => a.getD i 0

theorem kept_zero (bef : Int → Int → Bool) (a : List Int) (n : Int) : kept bef a n 0 = [] := rfl
theorem kept_yes (bef : Int → Int → Bool) (a : List Int) (n : Int) (k : Nat) (h : ((cnt bef a k a.length : Nat) : Int) < n) : kept bef a n (k + 1) = kept bef a n k ++ [a.getD k 0] := by
  unfold kept; rw [List.range_succ, List.filter_append, List.map_append]; simp [h]
theorem kept_no (bef : Int → Int → Bool) (a : List Int) (n : Int) (k : Nat) (h : ¬ ((cnt bef a k a.length : Nat) : Int) < n) : kept bef a n (k + 1) = kept bef a n k := by
  unfold kept; rw [List.range_succ, List.filter_append, List.map_append]; simp [h]

/-- What is asked of the order on values: strict, and any two that differ are ordered. -/
structure Ord (bef : Int → Int → Bool) : Prop where
  irr : ∀ x, bef x x = false
  tr : ∀ x y z, bef x y = true → bef y z = true → bef x z = true
  tot : ∀ x y, x ≠ y → bef x y = true ∨ bef y x = true

theorem ahd_irr {bef : Int → Int → Bool} (h : Ord bef) (a : List Int) (i : Nat) : ahd bef a i i = false := by simp [ahd, h.irr]
theorem ahd_tr {bef : Int → Int → Bool} (h : Ord bef) (a : List Int) {i j k : Nat} (h1 : ahd bef a i j = true) (h2 : ahd bef a j k = true) : ahd bef a i k = true := by
  simp only [ahd, Bool.or_eq_true, Bool.and_eq_true, beq_iff_eq, decide_eq_true_eq] at *
  rcases h1 with h1 | ⟨e1, l1⟩ <;> rcases h2 with h2 | ⟨e2, l2⟩
  · exact .inl (h.tr _ _ _ h1 h2)
  · left; rw [← e2]; exact h1
  · left; rw [e1]; exact h2
  · right; exact ⟨e1.trans e2, by omega⟩
theorem ahd_tot {bef : Int → Int → Bool} (h : Ord bef) (a : List Int) {i j : Nat} (hij : i ≠ j) : ahd bef a i j = true ∨ ahd bef a j i = true := by
  simp only [ahd, Bool.or_eq_true, Bool.and_eq_true, beq_iff_eq, decide_eq_true_eq]
  by_cases e : a.getD i 0 = a.getD j 0
  · rcases Nat.lt_or_gt_of_ne hij with hl | hl
    · exact .inl (.inr ⟨e, hl⟩)
    · exact .inr (.inr ⟨e.symm, hl⟩)
  · rcases h.tot _ _ e with h1 | h1
    · exact .inl (.inl h1)
    · exact .inr (.inl h1)

/-- The indices in the order. -/
theorem ordered {bef : Int → Int → Bool} (h : Ord bef) (a : List Int) : ∃ S : List Nat, S.Perm (List.range a.length) ∧ S.Pairwise fun i j => ahd bef a i j = true := by
  let le : Nat → Nat → Bool := fun i j => !ahd bef a j i
  refine ⟨(List.range a.length).mergeSort le, List.mergeSort_perm _ _, ?_⟩
  have hs := List.pairwise_mergeSort (le := le) (fun i j k h1 h2 => by
      simp only [le, Bool.not_eq_eq_eq_not, Bool.not_true] at *
      cases h3 : ahd bef a k i with
      | false => rfl
      | true =>
        by_cases hij : i = j
        · subst hij; rw [h3] at h2; cases h2
        · rcases ahd_tot h a hij with h4 | h4
          · have := ahd_tr h a h3 h4; rw [h2] at this; cases this
          · rw [h1] at h4; cases h4)
    (fun i j => by
      simp only [le, Bool.or_eq_true, Bool.not_eq_eq_eq_not, Bool.not_true]
      cases h1 : ahd bef a j i with
      | false => exact .inl rfl
      | true =>
        right
        cases h2 : ahd bef a i j with
        | false => rfl
        | true => have := ahd_tr h a h1 h2; rw [ahd_irr h] at this; cases this) (List.range a.length)
  have hn : ((List.range a.length).mergeSort le).Nodup := (List.mergeSort_perm _ _).nodup_iff.2 List.nodup_range
  have := hs.and hn
  refine pw_mono this ?_
  rintro i j ⟨h1, h2⟩
  simp only [le, Bool.not_eq_eq_eq_not, Bool.not_true] at h1
  rcases ahd_tot h a h2 with h3 | h3
  · exact h3
  · rw [h1] at h3; cases h3

/-- In a strictly ordered list the count of those ahead is the place. -/
theorem count_place {α : Type} (R : α → α → Bool) (irr : ∀ x, R x x = false) (asym : ∀ x y, R x y = true → R y x = false) :
    ∀ (S : List α), S.Pairwise (fun x y => R x y = true) → ∀ k (hk : k < S.length), S.countP (fun x => R x S[k]) = k := by
  intro S
  induction S with
  | nil => intro _ k hk; simp at hk
  | cons x S ih =>
    intro hp k hk
    obtain ⟨h1, h2⟩ := List.pairwise_cons.1 hp
    cases k with
    | zero =>
      simp only [List.getElem_cons_zero, List.countP_cons, irr]
      have : S.countP (fun y => R y x) = 0 := by
        rw [List.countP_eq_zero]
        intro y hy; rw [asym x y (h1 y hy)]; simp
      simp [this]
    | succ k =>
      have hk' : k < S.length := by simpa using hk
      simp only [List.getElem_cons_succ, List.countP_cons, h1 _ (List.getElem_mem hk'), ih h2 k hk', if_true]

theorem filter_take {α : Type} (f : α → Nat) (n : Nat) : ∀ (S : List α) (m : Nat), (∀ k (hk : k < S.length), f S[k] = m + k) → S.filter (fun x => decide (f x < n)) = S.take (n - m) := by
  intro S
  induction S with
  | nil => intro m _; simp
  | cons x S ih =>
    intro m h
    have h0 : f x = m := h 0 (by simp)
    have hS := ih (m + 1) (fun k hk => by have := h (k + 1) (by simpa using hk); simp only [List.getElem_cons_succ] at this; omega)
    by_cases hlt : m < n
    · rw [List.filter_cons_of_pos (by simp [h0, hlt]), hS, show n - m = (n - (m + 1)) + 1 by omega, List.take_succ_cons]
    · rw [List.filter_cons_of_neg (by simp [h0]; omega), hS, show n - m = 0 by omega, show n - (m + 1) = 0 by omega]; simp

/-- What is kept is what the order puts first. -/
theorem kept_first {bef : Int → Int → Bool} (h : Ord bef) (a : List Int) (n : Nat) : ∃ M : List Int, M.Perm a ∧ (M.Pairwise fun x y => bef x y = true ∨ x = y) ∧ (kept bef a n a.length).Perm (M.take n) := by
  obtain ⟨S, hp, hs⟩ := ordered h a
  have hc : ∀ i, cnt bef a i a.length = S.countP fun j => ahd bef a j i := fun i => (hp.countP_eq _).symm
  refine ⟨S.map fun i => a.getD i 0, ?_, ?_, ?_⟩
  · refine (hp.map _).trans ?_
    have : (List.range a.length).map (fun i => a.getD i 0) = a := by
      apply List.ext_getElem (by simp)
      intro i h1 h2
      simp [h2]
    rw [this]
  · rw [List.pairwise_map]
    refine pw_mono hs ?_
    intro i j hij
    simp only [ahd, Bool.or_eq_true, Bool.and_eq_true, beq_iff_eq, decide_eq_true_eq] at hij
    rcases hij with h1 | ⟨h1, _⟩
    · exact .inl h1
    · exact .inr h1
  · unfold kept
    rw [← List.map_take]
    refine List.Perm.map _ ?_
    refine (hp.symm.filter _).trans ?_
    have e : (S.filter fun i => decide (((cnt bef a i a.length : Nat) : Int) < (n : Int))) = S.filter fun i => decide (cnt bef a i a.length < n) := by
      congr 1; funext i; simp
    rw [e, filter_take (fun i => cnt bef a i a.length) n S 0 (fun k hk => by
      rw [hc, Nat.zero_add]
      exact count_place (fun i j => ahd bef a i j) (ahd_irr h a) (fun x y hxy => by
        cases h2 : ahd bef a y x with
        | false => rfl
        | true => have := ahd_tr h a hxy h2; rw [ahd_irr h] at this; cases this) S hs k hk)]
    simp

/-- Greater first. -/
def hi (x y : Int) : Bool := decide (y < x)
/-- Smaller first. -/
def lo (x y : Int) : Bool := decide (x < y)
theorem hi_ord : Ord hi := ⟨fun x => by simp [hi], fun x y z h1 h2 => by simp [hi] at *; omega, fun x y h => by simp [hi]; omega⟩
theorem lo_ord : Ord lo := ⟨fun x => by simp [lo], fun x y z h1 h2 => by simp [lo] at *; omega, fun x y h => by simp [lo]; omega⟩

theorem kept_lo (neg : Bool) (a : List Int) (n : Nat) : sg neg (kept lo a n a.length) = sg neg ((srt a).take n) := by
  obtain ⟨M, h1, h2, h3⟩ := kept_first lo_ord a n
  have e : M = srt a := srt_of h1 (pw_mono h2 (by intro x y h; simp [lo] at h; omega))
  rw [sg_perm neg h3, e]

theorem kept_hi (neg : Bool) (a : List Int) (n : Nat) : sg neg (kept hi a n a.length) = sg neg ((srt a).drop (a.length - n)) := by
  obtain ⟨M, h1, h2, h3⟩ := kept_first hi_ord a n
  have hr : M.reverse.Pairwise (· ≤ ·) := by
    rw [List.pairwise_reverse]
    exact pw_mono h2 (by intro x y h; simp [hi] at h; omega)
  have e : M.reverse = srt a := srt_of ((List.reverse_perm M).trans h1) hr
  rw [sg_perm neg h3]
  refine sg_perm neg ?_
  have e2 : M = (srt a).reverse := by rw [← e, List.reverse_reverse]
  rw [e2, List.take_reverse, srt_length]
  exact List.reverse_perm _

/-! ### Insertion -/
/-- x goes in at place j of the sorted list S: all from j on are greater, the one ahead is not. -/
theorem insert_sorted {S : List Int} {x : Int} {j : Nat} (hs : S.Pairwise (· ≤ ·)) (hj : j ≤ S.length) (hgt : ∀ i, j ≤ i → (h : i < S.length) → x < S[i]) (hle : ∀ h : 0 < j, S[j - 1]'(by omega) ≤ x) :
    (S.take j ++ x :: S.drop j).Pairwise (· ≤ ·) := by
  rw [List.pairwise_append, List.pairwise_cons]
  refine ⟨hs.sublist (List.take_sublist _ _), ⟨?_, hs.sublist (List.drop_sublist _ _)⟩, ?_⟩
  · intro y hy
    obtain ⟨i, hi, rfl⟩ := List.mem_iff_getElem.1 hy
    rw [List.getElem_drop]
    have := hgt (j + i) (by omega) (by simp at hi; omega)
    omega
  · intro y hy z hz
    obtain ⟨i, hi, rfl⟩ := List.mem_iff_getElem.1 hy
    have hi' : i < j ∧ i < S.length := by simp at hi; omega
    rw [List.getElem_take]
    have hy1 : S[i]'hi'.2 ≤ x := by
      have h1 := hle (by omega)
      by_cases e : i = j - 1
      · subst e; exact h1
      · have := List.pairwise_iff_getElem.1 hs i (j - 1) hi'.2 (by omega) (by omega)
        omega
    rcases List.mem_cons.1 hz with rfl | hz
    · exact hy1
    · obtain ⟨k, hk, rfl⟩ := List.mem_iff_getElem.1 hz
      rw [List.getElem_drop]
      have := hgt (j + k) (by omega) (by simp at hk; omega)
      omega

theorem insert_perm (S : List Int) (x : Int) (j : Nat) : (S.take j ++ x :: S.drop j).Perm (S ++ [x]) := by
  refine List.perm_middle.trans ?_
  rw [List.take_append_drop]
  exact (List.perm_append_singleton x S).symm

end Go.Proofs.Qxb6625640a
