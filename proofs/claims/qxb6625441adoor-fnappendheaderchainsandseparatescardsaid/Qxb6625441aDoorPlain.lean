import Derived.Lib.ItoaLen
/-! The plain mathematics of a header line: typ, the decimal numeral, CR LF. No Go in sight. -/
namespace Go.Proofs.Qxb6625441aDoor
open Go.Lib

/-- The bytes of a header line. -/
def hdr (t : UInt8) (n : Int) : List UInt8 := t :: (itoa n ++ [13, 10])

theorem hdr_length (t : UInt8) (n : Int) : (hdr t n).length = (itoa n).length + 3 := by simp [hdr]

theorem pow_le_of_nDigits (u : Nat) (h : 1 ≤ u) : 10 ^ (nDigits u - 1) ≤ u := by
  induction u using Nat.strongRecOn with
  | _ u ih =>
    by_cases h9 : u < 10
    · rw [nDigits_small h9]; simpa using h
    · rw [nDigits_big h9]
      have h1 := ih (u / 10) (by omega) (by omega)
      have h2 := nDigits_pos (u / 10)
      obtain ⟨k, hk⟩ : ∃ k, nDigits (u / 10) = k + 1 := ⟨nDigits (u / 10) - 1, by omega⟩
      rw [hk] at h1 ⊢
      simp only [Nat.add_sub_cancel] at h1 ⊢
      rw [Nat.pow_succ]
      omega

theorem nDigits_le19 (u : Nat) (h : u < 10000000000000000000) : nDigits u ≤ 19 := by
  rcases Nat.eq_zero_or_pos u with rfl | h1
  · rw [nDigits_small (by omega)]; omega
  · have hp := pow_le_of_nDigits u h1
    rcases Nat.lt_or_ge 19 (nDigits u) with h2 | h2
    · exfalso
      have h3 : 10 ^ 19 ≤ 10 ^ (nDigits u - 1) := Nat.pow_le_pow_right (by decide) (by omega)
      have h4 : (10 : Nat) ^ 19 = 10000000000000000000 := by decide
      omega
    · exact h2

theorem dg_toNat (u j : Nat) : (dg u j).toNat = 48 + u / 10 ^ j % 10 := by
  unfold dg
  have : u / 10 ^ j % 10 < 10 := Nat.mod_lt _ (by decide)
  rw [UInt8.toNat_ofNat']
  omega

theorem decDigits_at (u k : Nat) (h : k < (decDigits u).length) : ((decDigits u)[k]).toNat = 48 + u / 10 ^ (nDigits u - 1 - k) % 10 := by
  have e := decDigits_eq u
  have : (decDigits u)[k] = dg u (nDigits u - 1 - k) := by
    simp only [e, List.getElem_map, List.getElem_range]
  rw [this, dg_toNat]

/-- What the first k digits say. -/
def pre (u k : Nat) : Nat := u / 10 ^ (nDigits u - k)

theorem pre_zero (u : Nat) : pre u 0 = 0 := by
  unfold pre
  exact Nat.div_eq_of_lt (by simpa using lt_pow_nDigits u)

theorem pre_all (u : Nat) : pre u (nDigits u) = u := by simp [pre]

theorem pre_le (u k : Nat) : pre u k ≤ u := Nat.div_le_self _ _

theorem pre_succ (u k : Nat) (h : k < (decDigits u).length) : pre u (k + 1) = pre u k * 10 + (((decDigits u)[k]).toNat - 48) := by
  rw [decDigits_at u k h]
  rw [decDigits_length] at h
  unfold pre
  have e : nDigits u - k = nDigits u - 1 - k + 1 := by omega
  have e2 : nDigits u - (k + 1) = nDigits u - 1 - k := by omega
  rw [e, e2, Nat.pow_succ, ← Nat.div_div_eq_div_mul]
  omega

theorem digit_lo (u k : Nat) (h : k < (decDigits u).length) : 48 ≤ ((decDigits u)[k]).toNat ∧ ((decDigits u)[k]).toNat ≤ 57 := by
  rw [decDigits_at u k h]
  have : u / 10 ^ (nDigits u - 1 - k) % 10 < 10 := Nat.mod_lt _ (by decide)
  omega

/-- No leading zero. -/
theorem head_ne (u : Nat) (h : 1 < (decDigits u).length) : ((decDigits u)[0]'(by omega)).toNat ≠ 48 := by
  rw [decDigits_at u 0 (by omega)]
  rw [decDigits_length] at h
  have h1 : 1 ≤ u := by
    rcases Nat.eq_zero_or_pos u with rfl | h1
    · rw [nDigits_small (by omega)] at h; omega
    · exact h1
  have hp := pow_le_of_nDigits u h1
  have hq := lt_pow_nDigits u
  have e : nDigits u = nDigits u - 1 + 1 := by omega
  rw [e, Nat.pow_succ] at hq
  have h2 : 1 ≤ u / 10 ^ (nDigits u - 1) := Nat.div_pos hp (Nat.pow_pos (by decide))
  have h3 : u / 10 ^ (nDigits u - 1) < 10 := Nat.div_lt_of_lt_mul hq
  simp only [Nat.sub_zero]
  omega

theorem decDigits_inj {u v : Nat} (h : decDigits u = decDigits v) : u = v := by
  have hl : nDigits u = nDigits v := by rw [← decDigits_length, ← decDigits_length, h]
  have key : ∀ k, k ≤ nDigits u → pre u k = pre v k := by
    intro k
    induction k with
    | zero => intro _; rw [pre_zero, pre_zero]
    | succ k ih =>
      intro hk
      rw [pre_succ u k (by rw [decDigits_length]; omega), pre_succ v k (by rw [decDigits_length]; omega), ih (by omega)]
      simp only [h]
  have := key _ (Nat.le_refl _)
  rwa [pre_all, hl, pre_all] at this

theorem decDigits_no_minus (u : Nat) (l : List UInt8) : decDigits u ≠ 45 :: l := by
  intro h
  have hl : 0 < (decDigits u).length := by rw [h]; simp
  have := digit_lo u 0 hl
  simp only [h, List.getElem_cons_zero] at this
  have e : (45 : UInt8).toNat = 45 := rfl
  omega

theorem itoa_inj {m n : Int} (h : itoa m = itoa n) : m = n := by
  unfold itoa at h
  split at h <;> split at h
  · have := decDigits_inj (List.cons.inj h).2; omega
  · exact absurd h.symm (decDigits_no_minus _ _)
  · exact absurd h (decDigits_no_minus _ _)
  · have := decDigits_inj h; omega

theorem hdr_inj {s t : UInt8} {m n : Int} : hdr s m = hdr t n ↔ s = t ∧ m = n := by
  constructor
  · intro h
    unfold hdr at h
    obtain ⟨rfl, h2⟩ := List.cons.inj h
    exact ⟨rfl, itoa_inj (List.append_cancel_right h2)⟩
  · rintro ⟨rfl, rfl⟩; rfl

/-- The loop of zzWidth: as many rounds as there are digits beyond the first. -/
theorem itoa_length (n : Int) : (itoa n).length = nDigits n.natAbs + (if n < 0 then 1 else 0) := by
  unfold itoa
  split
  · simp [decDigits_length]
  · rw [decDigits_length]
    have : n.toNat = n.natAbs := by omega
    rw [this]; rfl

end Go.Proofs.Qxb6625441aDoor
