import Derived.Test.Qxb6625640aValue
/-! A row of ints that the call made, as one word; the clone and the value in that word. -/
namespace Go.Proofs.Qxb6625640a
open Go.RowKit

/-- The slice value (no spare room) leads to a row of the call's own, from block B on, that holds l; or it is nil and l is empty. -/
structure Own (w : World) (B : Nat) (a : Option Addr) (n : Nat) (l : List Int) : Prop where
  row : w.ownsRow B 3 1 (.slice a n n) n (ic l)
  len : l.length = n

def blk : Option Addr → Option Nat
  | some x => some x.block
  | none => none

theorem blk_own (a : Option Addr) (n c : Nat) : (Value.slice a n c).ownBlock = blk a := by cases a <;> rfl

variable {w w' : World} {B : Nat} {a : Option Addr} {n : Nat} {l : List Int}

theorem Own.rd (h : Own w B a n l) : Rd w (.slice a n n) l := Rd.of_own (B := B) (by rw [h.len]; exact h.row)
theorem Own.lt (h : Own w B a n l) : ∀ k, blk a = some k → B ≤ k ∧ k < w.heap.size := fun k hk => h.row.lt k (by rw [blk_own]; exact hk)
theorem Own.below (h : Own w B a n l) (hb : Below w.heap.size w w') : Own w' B a n l := by
  refine ⟨⟨h.row.1, ?_⟩, h.len⟩
  have hlt := h.row.lt
  rcases h.row.2 with hn | ⟨g, cap, cur, hv, hbg, hg, r⟩
  · exact .inl hn
  · exact .inr ⟨g, cap, cur, hv, hbg, (hb.block g (hlt g (by rw [hv]; rfl)).2).trans hg, r⟩
theorem Own.kept {row : Option Nat} (h : Own w B a n l) (hg : w.grownBy w' row) (hne : ∀ k, blk a = some k → row ≠ some k) : Own w' B a n l := by
  refine ⟨h.row.kept hg ?_, h.len⟩
  rw [blk_own]
  cases hb : blk a with
  | none => exact .inl rfl
  | some k => exact .inr (fun e => hne k hb e.symm)
theorem Own.alloc (h : Own w B a n l) (o : Obj) : Own (w.alloc o) B a n l := ⟨h.row.alloc o, h.len⟩
theorem Own.drewN (h : Own w B a n l) (q : Nat) : Own (w.drewN q) B a n l := ⟨h.row, h.len⟩

theorem srt_nil : srt [] = [] := List.eq_nil_of_length_eq_zero (by rw [srt_length]; rfl)

/-- zzCloneInts. -/
theorem clone_own (v : Value) (l : List Int) (n : Nat) (hn : l.length = n) (hl : n ≤ 1048576) (w : World) (hv : Rd w v l) :
    Calls Try.prog 6 #[v] w fun e w' => ∃ a, e = .returned (.slice a n n) ∧ Own w' w.heap.size a n l ∧ Below w.heap.size w w' :=
  (clone_any v l n hn hl w hv).mono fun e w' ⟨a, he, ho, hb⟩ => ⟨a, he, ⟨by rw [hn] at ho; exact ho, hn⟩, hb⟩

/-- A row that is not nil lies at its block's head. -/
theorem Own.form (h : Own w B a n l) : (a = none ∧ n = 0 ∧ l = []) ∨ ∃ g, a = some ⟨g, 0, none⟩ := by
  rcases h.row.2 with ⟨hv, h0⟩ | ⟨g, cap, cur, hv, r⟩
  · simp only [Value.slice.injEq] at hv
    exact .inl ⟨hv.1, h0, List.eq_nil_of_length_eq_zero (by rw [h.len, h0])⟩
  · simp only [Value.slice.injEq] at hv
    exact .inr ⟨g, hv.1⟩

theorem grown_refl (w : World) (row : Option Nat) : w.grownBy w row := ⟨rfl, rfl, rfl, Nat.le_refl _, fun _ _ _ => rfl⟩

theorem value_hi (tb B : Nat) (a : Option Addr) (n k : Nat) (l : List Int) (hl : n ≤ 1048576) (hk : k ≤ n) (neg : Bool) (w : World) (ht : TermAt w tb neg 1 k) (htg : blk a ≠ some tb) (h : Own w B a n l) :
    Calls Try.prog 12 #[.pointer (some ⟨tb, 0, none⟩), .slice a n n] w fun e w' => e = .returned (.int .i64 (sg neg ((srt l).drop (n - k)))) ∧ Own w' B a n (srt l) ∧ w.grownBy w' (blk a) := by
  rcases h.form with ⟨rfl, rfl, rfl⟩ | ⟨g, rfl⟩
  · obtain rfl : k = 0 := by omega
    refine (val_nil tb neg 1 (.inl rfl) w ht).mono fun e w' ⟨he, hw⟩ => ?_
    subst hw
    rw [srt_nil]
    exact ⟨he, h, grown_refl _ _⟩
  · obtain ⟨d, rfl⟩ : ∃ d, n = d + k := ⟨n - k, by omega⟩
    refine (val_hi tb B g d k l h.len hl neg w ht (fun e => htg (by rw [e]; rfl)) h.row).mono fun e w' ⟨he, ho, hg⟩ => ?_
    refine ⟨?_, ⟨ho, by rw [srt_length, h.len]⟩, hg⟩
    rw [show d + k - k = d by omega]; exact he

theorem value_lo (tb B : Nat) (a : Option Addr) (n k : Nat) (l : List Int) (hl : n ≤ 1048576) (hk : k ≤ n) (neg : Bool) (w : World) (ht : TermAt w tb neg 2 k) (htg : blk a ≠ some tb) (h : Own w B a n l) :
    Calls Try.prog 12 #[.pointer (some ⟨tb, 0, none⟩), .slice a n n] w fun e w' => e = .returned (.int .i64 (sg neg ((srt l).take k))) ∧ Own w' B a n (srt l) ∧ w.grownBy w' (blk a) := by
  rcases h.form with ⟨rfl, rfl, rfl⟩ | ⟨g, rfl⟩
  · obtain rfl : k = 0 := by omega
    refine (val_nil tb neg 2 (.inr rfl) w ht).mono fun e w' ⟨he, hw⟩ => ?_
    subst hw
    rw [srt_nil]
    exact ⟨he, h, grown_refl _ _⟩
  · obtain ⟨d, rfl⟩ : ∃ d, n = d + k := ⟨n - k, by omega⟩
    refine (val_lo tb B g d k l h.len hl neg w ht (fun e => htg (by rw [e]; rfl)) h.row).mono fun e w' ⟨he, ho, hg⟩ => ?_
    exact ⟨he, ⟨ho, by rw [srt_length, h.len]⟩, hg⟩

/-! ### The term in its box -/
/-- A term as it is boxed. -/
def term (s : ByteArray) (c : Int) (neg : Bool) (nd sd mode N : Int) : Obj :=
  .cells #[.string s, .int .i64 c, .bool neg, .int .i64 nd, .int .i64 sd, .int .i64 mode, .int .i64 N] 30

theorem term_new (w : World) (s : ByteArray) (c : Int) (neg : Bool) (nd sd mode N : Int) : TermAt (w.alloc (term s c neg nd sd mode N)) w.heap.size neg mode N := by
  refine ⟨?_, ?_, ?_⟩ <;> simp [term]

theorem TermAt.grown {w w' : World} {tb : Nat} {neg : Bool} {mode N : Int} {row : Option Nat} (h : TermAt w tb neg mode N) (hg : w.grownBy w' row) (hne : row ≠ some tb) : TermAt w' tb neg mode N :=
  ⟨hg.cell h.neg hne.symm, hg.cell h.mode hne.symm, hg.cell h.num hne.symm⟩

theorem TermAt.alloc {w : World} {tb : Nat} {neg : Bool} {mode N : Int} (h : TermAt w tb neg mode N) (o : Obj) : TermAt (w.alloc o) tb neg mode N :=
  h.grown (World.grownBy_alloc w o none) (by simp)

/-! ### The thin door ZZTermValue -/
set_option maxHeartbeats 400000 in
theorem z_all (tb : Nat) (v : Value) (l : List Int) (hl : l.length ≤ 1048576) (neg : Bool) (N : Int) (w : World) (ht : TermAt w tb neg 0 N) (hv : Rd w v l) :
    Calls Try.prog 7 #[.pointer (some ⟨tb, 0, none⟩), v] w fun e w' => e = .returned (.int .i64 (sg neg l)) ∧ w = w' := by
  go_enter Try.func7, Try.ntmps7
  go_wp2_with (go_at_call 12; refine (val_all tb v l hl neg N w ht hv).mono ?_; rintro e w' ⟨rfl, rfl⟩)
  go_ret
  exact ⟨rfl, rfl⟩

set_option maxHeartbeats 400000 in
theorem z_hi (tb B : Nat) (a : Option Addr) (n k : Nat) (l : List Int) (hl : n ≤ 1048576) (hk : k ≤ n) (neg : Bool) (w : World) (ht : TermAt w tb neg 1 k) (htg : blk a ≠ some tb) (h : Own w B a n l) :
    Calls Try.prog 7 #[.pointer (some ⟨tb, 0, none⟩), .slice a n n] w fun e w' => e = .returned (.int .i64 (sg neg ((srt l).drop (n - k)))) ∧ Own w' B a n (srt l) ∧ w.grownBy w' (blk a) := by
  go_enter Try.func7, Try.ntmps7
  go_wp2_with (go_at_call 12; refine (value_hi tb B a n k l hl hk neg w ht htg h).mono ?_; rintro e w1 ⟨rfl, ho, hg⟩)
  go_ret
  exact ⟨rfl, ho, hg⟩

set_option maxHeartbeats 400000 in
theorem z_lo (tb B : Nat) (a : Option Addr) (n k : Nat) (l : List Int) (hl : n ≤ 1048576) (hk : k ≤ n) (neg : Bool) (w : World) (ht : TermAt w tb neg 2 k) (htg : blk a ≠ some tb) (h : Own w B a n l) :
    Calls Try.prog 7 #[.pointer (some ⟨tb, 0, none⟩), .slice a n n] w fun e w' => e = .returned (.int .i64 (sg neg ((srt l).take k))) ∧ Own w' B a n (srt l) ∧ w.grownBy w' (blk a) := by
  go_enter Try.func7, Try.ntmps7
  go_wp2_with (go_at_call 12; refine (value_lo tb B a n k l hl hk neg w ht htg h).mono ?_; rintro e w1 ⟨rfl, ho, hg⟩)
  go_ret
  exact ⟨rfl, ho, hg⟩

end Go.Proofs.Qxb6625640a
