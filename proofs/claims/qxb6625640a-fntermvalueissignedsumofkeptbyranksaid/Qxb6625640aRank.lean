import Derived.Test.Qxb6625640aSmall
/-! The walk of zzKeptByRank. -/
namespace Go.Proofs.Qxb6625640a
open Go.RowKit

set_option maxHeartbeats 400000 in
theorem rank_all (a : Option Addr) (n c : Nat) (i m : Int) (w : World) :
    Calls Try.prog 8 #[.slice a n c, .int .i64 i, .int .i64 0, .int .i64 m] w fun e w' => e = .returned (.bool true) ∧ ∃ q, w' = w.drewN q := by
  go_enter Try.func8, Try.ntmps8
  go_wp2
  go_ret
  exact ⟨rfl, 0, rfl⟩

theorem cnt_up {bef : Int → Int → Bool} {l : List Int} {i k : Nat} (h : ahd bef l k i = true) : ((cnt bef l i k : Nat) : Int) + 1 = ((cnt bef l i (k + 1) : Nat) : Int) := by rw [cnt_succ, h]; simp
theorem cnt_stay {bef : Int → Int → Bool} {l : List Int} {i k : Nat} (h : ahd bef l k i = false) : ((cnt bef l i k : Nat) : Int) = ((cnt bef l i (k + 1) : Nat) : Int) := by rw [cnt_succ, h]; simp

set_option maxHeartbeats 1000000 in
theorem rank_hi (b o c : Nat) (l : List Int) (n : Nat) (hn : l.length = n) (hl : n ≤ 1048576) (i : Nat) (hi1 : i < n) (m : Int) (w : World)
    (hc : ∀ i, i < n → w.cell? ⟨b, o + i, none⟩ = some (.int .i64 (l.getD i 0))) :
    Calls Try.prog 8 #[.slice (some ⟨b, o, none⟩) n c, .int .i64 (i : Int), .int .i64 1, .int .i64 m] w fun e w' => e = .returned (.bool (decide (((cnt hi l i l.length : Nat) : Int) < m))) ∧ ∃ q, w' = w.drewN q := by
  have HN : Hid (l.length = n) := hn
  have HLE : Hid (∀ k, cnt hi l i k ≤ k) := cnt_le hi l i
  have HC : Hid (∀ i, i < n → w.cell? ⟨b, o + i, none⟩ = some (.int .i64 (l.getD i 0))) := hc
  clear hn hc
  go_enter Try.func8, Try.ntmps8
  go_wp2
  go_loopw [9, 10] (fun s j wr => ∃ k q : Nat, k ≤ n ∧ j = .int .i64 k ∧ s = .int .i64 (cnt hi l i k : Int) ∧ wr = w.drewN q) (fun _ j _ => n - (intOf j).toNat)
  case atStart => exact ⟨0, 0, Nat.zero_le _, rfl, rfl, rfl⟩
  case round =>
    obtain ⟨k, q, hk, rfl, rfl, rfl⟩ := hrel
    by_cases hlt : k < n
    · obtain ⟨x, hx⟩ : ∃ x, l.getD k 0 = x := ⟨_, rfl⟩
      obtain ⟨y, hy⟩ : ∃ y, l.getD i 0 = y := ⟨_, rfl⟩
      have c1 := HC.out k hlt
      have c2 := HC.out i hi1
      have hkb := HLE.out k
      rw [hx] at c1
      rw [hy] at c2
      have HA : Hid (ahd hi l k i = (decide (y < x) || (x == y && decide (k < i)))) := by
        show _ = _
        unfold ahd hi
        rw [hx, hy]
      clear hx hy
      by_cases h1 : y < x
      · have hd : decide (y < x) = true := decide_eq_true h1
        have HU : Hid (((cnt hi l i k : Nat) : Int) + 1 = ((cnt hi l i (k + 1) : Nat) : Int)) := cnt_up (by rw [HA.out, hd]; rfl)
        go_wp2
        go_quiet (fail)
        go_wp2
        go_roundw
        case rel => exact ⟨k + 1, _, by omega, by go_num, by rw [HU.out], rfl⟩
        case measure => simp [intOf]; omega
      · have hd : decide (y < x) = false := decide_eq_false h1
        by_cases h2 : x = y
        · have he : (x == y) = true := by simpa using h2
          by_cases h3 : k < i
          · have hj : decide ((k : Int) < (i : Int)) = true := decide_eq_true (by omega)
            have HU : Hid (((cnt hi l i k : Nat) : Int) + 1 = ((cnt hi l i (k + 1) : Nat) : Int)) := cnt_up (by rw [HA.out, hd, he, decide_eq_true h3]; rfl)
            clear h2
            go_wp2
            go_quiet (fail)
            go_wp2
            go_roundw
            case rel => exact ⟨k + 1, _, by omega, by go_num, by rw [HU.out], rfl⟩
            case measure => simp [intOf]; omega
          · have hj : decide ((k : Int) < (i : Int)) = false := decide_eq_false (by omega)
            have HU : Hid (((cnt hi l i k : Nat) : Int) = ((cnt hi l i (k + 1) : Nat) : Int)) := cnt_stay (by rw [HA.out, hd, he, decide_eq_false h3]; rfl)
            clear h2
            go_wp2
            go_quiet (fail)
            go_wp2
            go_roundw
            case rel => exact ⟨k + 1, _, by omega, by go_num, by rw [HU.out], rfl⟩
            case measure => simp [intOf]; omega
        · have he : (x == y) = false := by simpa using h2
          have HU : Hid (((cnt hi l i k : Nat) : Int) = ((cnt hi l i (k + 1) : Nat) : Int)) := cnt_stay (by rw [HA.out, hd, he]; rfl)
          go_wp2
          go_quiet (fail)
          go_wp2
          go_roundw
          case rel => exact ⟨k + 1, _, by omega, by go_num, by rw [HU.out], rfl⟩
          case measure => simp [intOf]; omega
    · obtain rfl : k = n := by omega
      go_wp2
      go_ret
      exact ⟨ret_bool (by rw [HN.out]), _, rfl⟩

set_option maxHeartbeats 1000000 in
theorem rank_lo (b o c : Nat) (l : List Int) (n : Nat) (hn : l.length = n) (hl : n ≤ 1048576) (i : Nat) (hi1 : i < n) (m : Int) (w : World)
    (hc : ∀ i, i < n → w.cell? ⟨b, o + i, none⟩ = some (.int .i64 (l.getD i 0))) :
    Calls Try.prog 8 #[.slice (some ⟨b, o, none⟩) n c, .int .i64 (i : Int), .int .i64 2, .int .i64 m] w fun e w' => e = .returned (.bool (decide (((cnt lo l i l.length : Nat) : Int) < m))) ∧ ∃ q, w' = w.drewN q := by
  have HN : Hid (l.length = n) := hn
  have HLE : Hid (∀ k, cnt lo l i k ≤ k) := cnt_le lo l i
  have HC : Hid (∀ i, i < n → w.cell? ⟨b, o + i, none⟩ = some (.int .i64 (l.getD i 0))) := hc
  clear hn hc
  go_enter Try.func8, Try.ntmps8
  go_wp2
  go_loopw [9, 10] (fun s j wr => ∃ k q : Nat, k ≤ n ∧ j = .int .i64 k ∧ s = .int .i64 (cnt lo l i k : Int) ∧ wr = w.drewN q) (fun _ j _ => n - (intOf j).toNat)
  case atStart => exact ⟨0, 0, Nat.zero_le _, rfl, rfl, rfl⟩
  case round =>
    obtain ⟨k, q, hk, rfl, rfl, rfl⟩ := hrel
    by_cases hlt : k < n
    · obtain ⟨x, hx⟩ : ∃ x, l.getD k 0 = x := ⟨_, rfl⟩
      obtain ⟨y, hy⟩ : ∃ y, l.getD i 0 = y := ⟨_, rfl⟩
      have c1 := HC.out k hlt
      have c2 := HC.out i hi1
      have hkb := HLE.out k
      rw [hx] at c1
      rw [hy] at c2
      have HA : Hid (ahd lo l k i = (decide (x < y) || (x == y && decide (k < i)))) := by
        show _ = _
        unfold ahd lo
        rw [hx, hy]
      clear hx hy
      by_cases h1 : x < y
      · have hd : decide (x < y) = true := decide_eq_true h1
        have HU : Hid (((cnt lo l i k : Nat) : Int) + 1 = ((cnt lo l i (k + 1) : Nat) : Int)) := cnt_up (by rw [HA.out, hd]; rfl)
        go_wp2
        go_quiet (fail)
        go_wp2
        go_roundw
        case rel => exact ⟨k + 1, _, by omega, by go_num, by rw [HU.out], rfl⟩
        case measure => simp [intOf]; omega
      · have hd : decide (x < y) = false := decide_eq_false h1
        by_cases h2 : x = y
        · have he : (x == y) = true := by simpa using h2
          by_cases h3 : k < i
          · have hj : decide ((k : Int) < (i : Int)) = true := decide_eq_true (by omega)
            have HU : Hid (((cnt lo l i k : Nat) : Int) + 1 = ((cnt lo l i (k + 1) : Nat) : Int)) := cnt_up (by rw [HA.out, hd, he, decide_eq_true h3]; rfl)
            clear h2
            go_wp2
            go_quiet (fail)
            go_wp2
            go_roundw
            case rel => exact ⟨k + 1, _, by omega, by go_num, by rw [HU.out], rfl⟩
            case measure => simp [intOf]; omega
          · have hj : decide ((k : Int) < (i : Int)) = false := decide_eq_false (by omega)
            have HU : Hid (((cnt lo l i k : Nat) : Int) = ((cnt lo l i (k + 1) : Nat) : Int)) := cnt_stay (by rw [HA.out, hd, he, decide_eq_false h3]; rfl)
            clear h2
            go_wp2
            go_quiet (fail)
            go_wp2
            go_roundw
            case rel => exact ⟨k + 1, _, by omega, by go_num, by rw [HU.out], rfl⟩
            case measure => simp [intOf]; omega
        · have he : (x == y) = false := by simpa using h2
          have HU : Hid (((cnt lo l i k : Nat) : Int) = ((cnt lo l i (k + 1) : Nat) : Int)) := cnt_stay (by rw [HA.out, hd, he]; rfl)
          go_wp2
          go_quiet (fail)
          go_wp2
          go_roundw
          case rel => exact ⟨k + 1, _, by omega, by go_num, by rw [HU.out], rfl⟩
          case measure => simp [intOf]; omega
    · obtain rfl : k = n := by omega
      go_wp2
      go_ret
      exact ⟨ret_bool (by rw [HN.out]), _, rfl⟩

end Go.Proofs.Qxb6625640a
