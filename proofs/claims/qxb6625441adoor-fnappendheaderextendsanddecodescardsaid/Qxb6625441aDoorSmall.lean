import Derived.Test.Qxb6625441aDoorProg
import Derived.Test.Qxb6625441aDoorPlain
import Derived.WalkKit
import Derived.WalkSpells
import Derived.WalkLawsBesides
import Derived.Deep.QuietTactic
import Derived.BigQuiet
import Derived.Laws.BitsAllLaws
/-! The walks of the leaves: zzMag, zzEqual. -/
namespace Go.Proofs.Qxb6625441aDoor
open Go.RowKit Go.Lib

theorem ret_int {k : IntKind} {a b : Int} (h : a = b) : Ending.returned (.int k a) = .returned (.int k b) := by rw [h]
theorem ret_bool {a b : Bool} (h : a = b) : Ending.returned (.bool a) = .returned (.bool b) := by rw [h]

theorem compl64 (x : Nat) (h : x < 18446744073709551616) : 18446744073709551615 ^^^ x = 18446744073709551615 - x := by
  apply Nat.eq_of_testBit_eq
  intro i
  have e1 : 18446744073709551615 - x = 2 ^ 64 - (x + 1) := by omega
  have e2 : (18446744073709551615 : Nat) = 2 ^ 64 - 1 := by decide
  rw [e1, Nat.testBit_two_pow_sub_succ (by simpa using h), e2, Nat.testBit_xor, Nat.testBit_two_pow_sub_one]
  by_cases hi : i < 64
  · simp [hi]
  · have : x.testBit i = false := Nat.testBit_lt_two_pow (Nat.lt_of_lt_of_le h (by have := Nat.pow_le_pow_right (n := 2) (by decide) (show 64 ≤ i by omega); simpa using this))
    simp [hi, this]

theorem mag_neg (n : Int) (h0 : -9223372036854775808 ≤ n) (hn : n < 0) :
    IntKind.u64.wrap (bits BinOp.xor IntKind.u64 IntKind.u64.max (IntKind.u64.wrap n) + 1) = (n.natAbs : Int) := by
  have e0 : IntKind.u64.wrap n = ((18446744073709551616 - n.natAbs : Nat) : Int) := by
    simp only [IntKind.wrap, IntKind.bits, IntKind.signed]
    simp
    omega
  have e1 : IntKind.u64.max = ((18446744073709551615 : Nat) : Int) := rfl
  have hlt : 18446744073709551616 - n.natAbs < 18446744073709551616 := by omega
  rw [e0, e1, u64_xor_nat _ _ (by omega) hlt, compl64 _ hlt]
  simp only [IntKind.wrap, IntKind.bits, IntKind.signed]
  simp
  omega

set_option maxHeartbeats 400000 in
theorem mag_any (n : Int) (w : World) (h0 : -9223372036854775808 ≤ n) (h1 : n ≤ 9223372036854775807) :
    Calls Tryd.prog 13 #[.int .i64 n] w fun e w' => e = .returned (.int .u64 (n.natAbs : Int)) ∧ w' = w := by
  by_cases hn : n < 0
  · go_enter Tryd.func13, Tryd.ntmps13
    go_wp2
    go_ret
    exact ⟨ret_int (mag_neg n h0 hn), rfl⟩
  · go_enter Tryd.func13, Tryd.ntmps13
    go_wp2
    go_ret
    exact ⟨ret_int (by omega), rfl⟩

/-- A slice value that reads as these bytes. -/
def Rd (w : World) (v : Value) (l : List UInt8) : Prop :=
  (l = [] ∧ ∃ a c, v = .slice a 0 c) ∨ ∃ b o c, v = .slice (some ⟨b, o, none⟩) l.length c ∧ ∀ i, i < l.length → w.cell? ⟨b, o + i, none⟩ = some (.int .u8 ((l.getD i 0).toNat : Int))

set_option maxHeartbeats 400000 in
theorem eq_len (a b : Option Addr) (n m c d : Nat) (w : World) (h : n ≠ m) :
    Calls Tryd.prog 9 #[.slice a n c, .slice b m d] w fun e w' => e = .returned (.bool false) ∧ ∃ q, w' = w.drewN q := by
  have h2 : ¬ (n : Int) = (m : Int) := by omega
  go_enter Tryd.func9, Tryd.ntmps9
  go_wp2
  go_ret
  exact ⟨rfl, 0, rfl⟩

set_option maxHeartbeats 400000 in
theorem eq_none (a b : Option Addr) (c d : Nat) (w : World) :
    Calls Tryd.prog 9 #[.slice a 0 c, .slice b 0 d] w fun e w' => e = .returned (.bool true) ∧ ∃ q, w' = w.drewN q := by
  go_enter Tryd.func9, Tryd.ntmps9
  go_wp2
  go_loop [5] (fun i => i = .int .i64 0) (fun _ => 0)
  case atStart => rfl
  case round =>
    subst hrel
    go_wp2
    go_ret
    exact ⟨rfl, 0, rfl⟩

theorem take_snoc_eq {xs ys : List UInt8} {n k : Nat} (hx : xs.length = n) (hy : ys.length = n) (hk : k < n) (ht : xs.take k = ys.take k)
    (he : (((xs[k]?.getD 0).toNat : Int) != ((ys[k]?.getD 0).toNat : Int)) = false) : xs.take (k + 1) = ys.take (k + 1) := by
  have e : xs[k]?.getD 0 = ys[k]?.getD 0 := by
    have : (xs[k]?.getD 0).toNat = (ys[k]?.getD 0).toNat := by
      have := he; simp at this; omega
    exact UInt8.toNat_inj.1 this
  rw [List.take_add_one, List.take_add_one, ht]
  have h1 : xs[k]? = some (xs[k]'(by omega)) := List.getElem?_eq_getElem _
  have h2 : ys[k]? = some (ys[k]'(by omega)) := List.getElem?_eq_getElem _
  rw [h1, h2] at e ⊢
  simp at e
  rw [e]

theorem ne_of_at {xs ys : List UInt8} {k : Nat} (he : (((xs[k]?.getD 0).toNat : Int) != ((ys[k]?.getD 0).toNat : Int)) = true) : decide (xs = ys) = false := by
  apply decide_eq_false
  rintro rfl
  simp at he

set_option maxHeartbeats 400000 in
theorem eq_same (a b o o' c d : Nat) (xs ys : List UInt8) (hl : xs.length = ys.length) (hm : ys.length ≤ maxLen) (w : World)
    (hx : ∀ i, i < xs.length → w.cell? ⟨a, o + i, none⟩ = some (.int .u8 ((xs.getD i 0).toNat : Int)))
    (hy : ∀ i, i < ys.length → w.cell? ⟨b, o' + i, none⟩ = some (.int .u8 ((ys.getD i 0).toNat : Int))) :
    Calls Tryd.prog 9 #[.slice (some ⟨a, o, none⟩) xs.length c, .slice (some ⟨b, o', none⟩) ys.length d] w fun e w' => e = .returned (.bool (decide (xs = ys))) ∧ ∃ q, w' = w.drewN q := by
  unfold maxLen at hm
  rw [hl] at hx ⊢
  obtain ⟨n, hn⟩ : ∃ n, ys.length = n := ⟨_, rfl⟩
  have HN : Hid (ys.length = n) := hn
  have HL : Hid (xs.length = n) := hl.trans hn
  rw [hn] at hx hy hm ⊢
  clear hn hl
  go_enter Tryd.func9, Tryd.ntmps9
  go_wp2
  go_loopw [5] (fun i wr => ∃ k q : Nat, k ≤ n ∧ i = .int .i64 k ∧ wr = w.drewN q ∧ Hid (xs.take k = ys.take k)) (fun i _ => n - (intOf i).toNat)
  case atStart => exact ⟨0, 0, Nat.zero_le _, rfl, rfl, rfl⟩
  case round =>
    obtain ⟨k, q, hk, rfl, rfl, ht⟩ := hrel
    by_cases hlt : k < n
    · have c1 := hx k hlt
      have c2 := hy k hlt
      go_wp2
      go_quiet (fail)
      go_wp2
      · go_ret
        have he : (((xs[k]?.getD 0).toNat : Int) != ((ys[k]?.getD 0).toNat : Int)) = true := by assumption
        exact ⟨ret_bool (ne_of_at he).symm, q + nq, by simp⟩
      · have he : (((xs[k]?.getD 0).toNat : Int) != ((ys[k]?.getD 0).toNat : Int)) = false := by assumption
        have hs := take_snoc_eq HL.out HN.out hlt ht.out he
        go_roundw
        case rel => exact ⟨k + 1, _, by omega, by go_num, rfl, hs⟩
        case measure => simp [intOf]; omega
    · obtain rfl : k = n := by omega
      go_wp2
      go_ret
      have h1 := ht.out
      rw [List.take_of_length_le (by rw [HL.out]; exact Nat.le_refl _), List.take_of_length_le (by rw [HN.out]; exact Nat.le_refl _)] at h1
      exact ⟨ret_bool (by simp [h1]), _, rfl⟩

/-- zzEqual: are the bytes the same? -/
theorem eq_any (va vb : Value) (xs ys : List UInt8) (hm : ys.length ≤ maxLen) (w : World) (ha : Rd w va xs) (hb : Rd w vb ys) :
    Calls Tryd.prog 9 #[va, vb] w fun e w' => e = .returned (.bool (decide (xs = ys))) ∧ ∃ q, w' = w.drewN q := by
  rcases ha with ⟨rfl, a, c, rfl⟩ | ⟨a, o, c, rfl, ha⟩ <;> rcases hb with ⟨rfl, b, d, rfl⟩ | ⟨b, o', d, rfl, hb⟩
  · exact eq_none a b c d w
  · by_cases hl : ys.length = 0
    · obtain rfl := List.eq_nil_of_length_eq_zero hl
      exact eq_none _ _ _ _ w
    · have e : decide ([] = ys) = false := decide_eq_false (by rintro rfl; exact hl rfl)
      rw [e]
      exact eq_len _ _ _ _ _ _ w (Ne.symm hl)
  · by_cases hl : xs.length = 0
    · obtain rfl := List.eq_nil_of_length_eq_zero hl
      exact eq_none _ _ _ _ w
    · have e : decide (xs = []) = false := decide_eq_false (by rintro rfl; exact hl rfl)
      rw [e]
      exact eq_len _ _ _ _ _ _ w hl
  · by_cases hl : xs.length = ys.length
    · exact eq_same a b o o' c d xs ys hl hm w ha hb
    · have e : decide (xs = ys) = false := decide_eq_false (by rintro rfl; exact hl rfl)
      rw [e]
      exact eq_len _ _ _ _ _ _ w hl

end Go.Proofs.Qxb6625441aDoor
