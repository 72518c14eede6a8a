import Derived.Lib.BitFns
import Derived.Lib.Endian
/-! The plain parse: hashes, chains, match lengths, the best match, the steps. No Go in sight. -/
namespace Go.Proofs.Qxb6625871aDoor

/-- The byte at a place. -/
def bt (l : List UInt8) (i : Nat) : UInt8 := l.getD i 0

/-- The hash of the four bytes at a place. -/
def hsh (l : List UInt8) (i : Nat) : Nat := Lib.leNat [bt l i, bt l (i + 1), bt l (i + 2), bt l (i + 3)] * 2654435761 % 4294967296 / 524288

theorem hsh_lt (l : List UInt8) (i : Nat) : hsh l i < 8192 := by unfold hsh; omega
theorem hsh_congr (l : List UInt8) {i j : Nat} (h : ∀ t, t < 4 → bt l (i + t) = bt l (j + t)) : hsh l i = hsh l j := by
  have h0 := h 0 (by omega)
  have h1 := h 1 (by omega)
  have h2 := h 2 (by omega)
  have h3 := h 3 (by omega)
  simp only [Nat.add_zero] at h0
  unfold hsh
  rw [h0, h1, h2, h3]

/-- The last place ahead of i with this hash, or -1. -/
def last (l : List UInt8) : Nat → Nat → Int
  | 0, _ => -1
  | i + 1, h => if i + 4 ≤ l.length ∧ hsh l i = h then (i : Int) else last l i h

theorem last_ge (l : List UInt8) (h : Nat) : ∀ i, -1 ≤ last l i h
  | 0 => by simp [last]
  | i + 1 => by
    unfold last
    split
    · omega
    · exact last_ge l h i
theorem last_lt (l : List UInt8) (h : Nat) : ∀ i, last l i h < i
  | 0 => by simp [last]
  | i + 1 => by
    unfold last
    split
    · omega
    · have := last_lt l h i; omega
theorem last_is (l : List UInt8) (h : Nat) : ∀ i, 0 ≤ last l i h → (last l i h).toNat + 4 ≤ l.length ∧ hsh l (last l i h).toNat = h
  | 0, h0 => by simp [last] at h0
  | i + 1, h0 => by
    unfold last at h0 ⊢
    split
    · rename_i hc; simpa using hc
    · rename_i hc; rw [if_neg hc] at h0; exact last_is l h i h0
theorem last_max (l : List UInt8) {h j : Nat} (hj : j + 4 ≤ l.length) (hh : hsh l j = h) : ∀ i, j < i → (j : Int) ≤ last l i h
  | 0, h0 => by omega
  | i + 1, h0 => by
    unfold last
    split
    · omega
    · rename_i hc
      by_cases e : i = j
      · subst e; exact absurd ⟨hj, hh⟩ hc
      · exact last_max l hj hh i (by omega)

/-- The next place of the chain. -/
def nx (l : List UInt8) (j : Nat) : Int := last l j (hsh l j)

/-! ### How many bytes are alike -/
def mlen (l : List UInt8) (j i : Nat) : Nat → Nat → Nat
  | 0, k => k
  | f + 1, k => if bt l (j + k) = bt l (i + k) then mlen l j i f (k + 1) else k
def ml (l : List UInt8) (j i lim : Nat) : Nat := mlen l j i lim 0

theorem mlen_spec (l : List UInt8) (j i : Nat) : ∀ f k, k ≤ mlen l j i f k ∧ mlen l j i f k ≤ k + f ∧ (∀ t, k ≤ t → t < mlen l j i f k → bt l (j + t) = bt l (i + t)) ∧ (mlen l j i f k < k + f → bt l (j + mlen l j i f k) ≠ bt l (i + mlen l j i f k))
  | 0, k => by simp [mlen]; intro t h1 h2; omega
  | f + 1, k => by
    unfold mlen
    by_cases h : bt l (j + k) = bt l (i + k)
    · rw [if_pos h]
      obtain ⟨h1, h2, h3, h4⟩ := mlen_spec l j i f (k + 1)
      refine ⟨by omega, by omega, fun t ht1 ht2 => ?_, fun hlt => h4 (by omega)⟩
      by_cases e : t = k
      · subst e; exact h
      · exact h3 t (by omega) ht2
    · rw [if_neg h]
      exact ⟨Nat.le_refl _, by omega, fun t h1 h2 => by omega, fun _ => h⟩

theorem ml_le (l : List UInt8) (j i lim : Nat) : ml l j i lim ≤ lim := by have := (mlen_spec l j i lim 0).2.1; unfold ml; omega
theorem ml_eq (l : List UInt8) (j i lim : Nat) {t : Nat} (h : t < ml l j i lim) : bt l (j + t) = bt l (i + t) := (mlen_spec l j i lim 0).2.2.1 t (Nat.zero_le _) h
theorem ml_ne (l : List UInt8) (j i lim : Nat) (h : ml l j i lim < lim) : bt l (j + ml l j i lim) ≠ bt l (i + ml l j i lim) := (mlen_spec l j i lim 0).2.2.2 (by unfold ml at h; omega)
/-- There is but one such number. -/
theorem ml_unique (l : List UInt8) (j i lim k : Nat) (h1 : k ≤ lim) (h2 : ∀ t, t < k → bt l (j + t) = bt l (i + t)) (h3 : k < lim → bt l (j + k) ≠ bt l (i + k)) : ml l j i lim = k := by
  rcases Nat.lt_trichotomy (ml l j i lim) k with h | h | h
  · exact absurd (h2 _ h) (ml_ne l j i lim (by omega))
  · exact h
  · have := ml_le l j i lim
    exact absurd (ml_eq l j i lim h) (h3 (by omega))

/-! ### The best match -/
/-- What a match saves. -/
def val (m : Nat × Nat) : Int := 3 * m.1 - (Lib.bitLen m.2 - 1)
/-- Is it worth taking? -/
def wor (m : Nat × Nat) : Bool := decide (4 < m.1) || (decide (m.1 = 4) && decide ((Lib.bitLen m.2 : Int) - 1 ≤ 10))

/-- The match that copies from j. -/
def cand (l : List UInt8) (i j : Nat) : Nat × Nat := (ml l j i (l.length - i), i - j)

/-- Is the candidate taken? -/
def tak (l : List UInt8) (i j : Nat) (m : Nat × Nat) (v : Int) (len : Nat) : Bool :=
  decide (bt l (j + len) = bt l (i + len)) && (decide (len < (cand l i j).1) && (decide (m.1 = 0) || decide (v < val (cand l i j))))
/-- Is it long enough to stop there? -/
def fin (l : List UInt8) (i j : Nat) : Bool := decide (32 ≤ (cand l i j).1) || decide ((cand l i j).1 = l.length - i)

/-- The search along a chain: so many places, from j on; m is the best so far, v its value, len its length (3 for none). -/
def bl (l : List UInt8) (i : Nat) : Nat → Int → Nat × Nat → Int → Nat → Nat × Nat
  | 0, _, m, _, _ => m
  | d + 1, j, m, v, len =>
    if j < 0 then m
    else if tak l i j.toNat m v len then
      if fin l i j.toNat then cand l i j.toNat
      else bl l i d (nx l j.toNat) (cand l i j.toNat) (val (cand l i j.toNat)) (cand l i j.toNat).1
    else bl l i d (nx l j.toNat) m v len

/-- The best match at a place. -/
def bst (l : List UInt8) (i depth : Nat) : Nat × Nat := if l.length < i + 4 then (0, 0) else bl l i depth (last l i (hsh l i)) (0, 0) 0 3

/-- No match, or a true copy. -/
def Good (l : List UInt8) (i : Nat) (m : Nat × Nat) : Prop :=
  m = (0, 0) ∨ (4 ≤ m.1 ∧ 1 ≤ m.2 ∧ m.2 ≤ i ∧ m.1 ≤ l.length - i ∧ ∀ t, t < m.1 → bt l (i + t) = bt l (i - m.2 + t))

theorem cand_good {l : List UInt8} {i j : Nat} (hj : j < i) (h : 4 ≤ (cand l i j).1) : Good l i (cand l i j) := by
  refine .inr ⟨h, by simp [cand]; omega, by simp [cand], ml_le _ _ _ _, fun t ht => ?_⟩
  have := ml_eq l j i (l.length - i) ht
  simp only [cand]
  rw [show i - (i - j) + t = j + t by omega, this]

theorem nx_lt (l : List UInt8) (j : Nat) : nx l j < j := last_lt _ _ _

theorem bl_good (l : List UInt8) (i : Nat) : ∀ d j m v len, j < (i : Int) → 3 ≤ len → Good l i m → Good l i (bl l i d j m v len)
  | 0, _, _, _, _, _, _, hm => hm
  | d + 1, j, m, v, len, hj, hl, hm => by
    unfold bl
    by_cases h0 : j < 0
    · rw [if_pos h0]; exact hm
    rw [if_neg h0]
    have hn : nx l j.toNat < (i : Int) := by have := nx_lt l j.toNat; omega
    by_cases ht : tak l i j.toNat m v len = true
    · rw [if_pos ht]
      have h4 : len < (cand l i j.toNat).1 := by simp [tak] at ht; exact ht.2.1
      have hg := cand_good (l := l) (i := i) (j := j.toNat) (by omega) (by omega)
      by_cases hf : fin l i j.toNat = true
      · rw [if_pos hf]; exact hg
      · rw [if_neg hf]; exact bl_good l i d _ _ _ _ hn (by omega) hg
    · rw [if_neg ht]; exact bl_good l i d _ _ _ _ hn hl hm

theorem bst_good (l : List UInt8) (i depth : Nat) : Good l i (bst l i depth) := by
  unfold bst
  split
  · exact .inl rfl
  · exact bl_good l i _ _ _ _ _ (last_lt _ _ _) (Nat.le_refl _) (.inl rfl)

/-! ### Worth -/
theorem wor_four {m : Nat × Nat} (h : wor m = true) : 4 ≤ m.1 := by
  simp [wor] at h; omega

theorem bitLen_lt {x : Nat} (h : 2048 ≤ x) (hx : x < 18446744073709551616) : 12 ≤ Lib.bitLen x := by
  have h1 := Lib.bitLen_shift 11 x (by simpa using h) (by simpa using hx)
  have h2 : Lib.bitLen (x / 2 ^ 11) = 1 + Lib.bitLen (x / 2 ^ 11 / 2) := Lib.bitLen_half _ (by have : 0 < x / 2 ^ 11 := Nat.div_pos (by simpa using h) (by decide); omega) (by have := Nat.div_le_self x (2 ^ 11); omega)
  omega

theorem wor_far {m : Nat × Nat} (h : wor m = true) (h4 : m.1 = 4) (hm : m.2 < 18446744073709551616) : m.2 < 2048 := by
  simp [wor, h4] at h
  rcases Nat.lt_or_ge m.2 2048 with h1 | h1
  · exact h1
  · have := bitLen_lt h1 hm; omega

theorem bitLen_near : ∀ x : Fin 9, Lib.bitLen x.val ≤ 4 := by decide +kernel
theorem wor_near {m : Nat × Nat} (h4 : 4 ≤ m.1) (h8 : m.2 ≤ 8) : wor m = true := by
  have := bitLen_near ⟨m.2, by omega⟩
  simp only at this
  simp [wor]
  omega

/-! ### A near copy is found -/
theorem bl_keeps (l : List UInt8) (i : Nat) : ∀ d j m v len, wor m = true → 4 ≤ len → wor (bl l i d j m v len) = true
  | 0, _, _, _, _, hm, _ => hm
  | d + 1, j, m, v, len, hm, hl => by
    unfold bl
    by_cases h0 : j < 0
    · rw [if_pos h0]; exact hm
    rw [if_neg h0]
    by_cases ht : tak l i j.toNat m v len = true
    · rw [if_pos ht]
      have h4 : len < (cand l i j.toNat).1 := by simp [tak] at ht; exact ht.2.1
      have hw : wor (cand l i j.toNat) = true := by simp [wor]; omega
      by_cases hf : fin l i j.toNat = true
      · rw [if_pos hf]; exact hw
      · rw [if_neg hf]; exact bl_keeps l i d _ _ _ _ hw (by omega)
    · rw [if_neg ht]; exact bl_keeps l i d _ _ _ _ hm hl

theorem bl_finds (l : List UInt8) (i t : Nat) (hi : i + 4 ≤ l.length) (hti : t < i) (hnear : i - t ≤ 8) (heq : ∀ k, k < 4 → bt l (t + k) = bt l (i + k)) :
    ∀ (d : Nat) (j : Int) (v : Int), (t : Int) ≤ j → j < (i : Int) → j - t < (d : Int) → hsh l j.toNat = hsh l t → wor (bl l i d j (0, 0) v 3) = true := by
  intro d
  induction d with
  | zero => intro j v h1 h2 h3 _; omega
  | succ d ih =>
    intro j v h1 h2 h3 hh
    unfold bl
    rw [if_neg (by omega)]
    obtain ⟨jn, rfl⟩ : ∃ jn : Nat, j = jn := ⟨j.toNat, by omega⟩
    simp only [Int.toNat_natCast] at hh ⊢
    by_cases ht : tak l i jn (0, 0) v 3 = true
    · rw [if_pos ht]
      have h4 : 3 < (cand l i jn).1 := by simp [tak] at ht; exact ht.2
      have hw : wor (cand l i jn) = true := wor_near (by omega) (by simp [cand]; omega)
      by_cases hf : fin l i jn = true
      · rw [if_pos hf]; exact hw
      · rw [if_neg hf]; exact bl_keeps l i d _ _ _ _ hw (by omega)
    · rw [if_neg ht]
      have hne : jn ≠ t := by
        rintro rfl
        apply ht
        have hml : 3 < (cand l i jn).1 := by
          show 3 < ml l jn i (l.length - i)
          rcases Nat.lt_or_ge 3 (ml l jn i (l.length - i)) with h | h
          · exact h
          · exact absurd (heq _ (by omega)) (ml_ne l jn i (l.length - i) (by omega))
        simp [tak, heq 3 (by omega), hml]
      have hmax := last_max l (h := hsh l jn) (j := t) (by omega) hh.symm jn (by omega)
      have hnl := nx_lt l jn
      have hmax' : (t : Int) ≤ nx l jn := hmax
      have his := last_is l (hsh l jn) jn (by omega)
      exact ih (nx l jn) v hmax' (by omega) (by omega) (his.2.trans hh)

theorem bst_finds (l : List UInt8) (i t : Nat) (hi : i + 4 ≤ l.length) (hti : t < i) (hnear : i - t ≤ 8) (heq : ∀ k, k < 4 → bt l (t + k) = bt l (i + k)) : wor (bst l i 8) = true := by
  unfold bst
  rw [if_neg (by omega)]
  have hh := hsh_congr l heq
  have hmax := last_max l (h := hsh l i) (j := t) (by omega) hh i hti
  have hlt := last_lt l (hsh l i) i
  have his := last_is l (hsh l i) i (by omega)
  exact bl_finds l i t hi hti hnear heq 8 _ 0 hmax hlt (by omega) (his.2.trans hh.symm)

/-! ### The steps -/
/-- Is a literal better here, for the match one place on? -/
def lazy (l : List UInt8) (i : Nat) (m : Nat × Nat) : Bool := decide (m.1 < 32) && (wor (bst l (i + 1) 4) && decide (val m < val (bst l (i + 1) 4)))

def prs (l : List UInt8) : Nat → Nat → Nat × Nat → List (Nat × Nat)
  | 0, _, _ => []
  | f + 1, i, m =>
    if l.length ≤ i then []
    else if wor m = false then (1, 0) :: prs l f (i + 1) (bst l (i + 1) 8)
    else if lazy l i m then (1, 0) :: prs l f (i + 1) (bst l (i + 1) 4)
    else m :: prs l f (i + m.1) (bst l (i + m.1) 8)

def steps (l : List UInt8) : List (Nat × Nat) := prs l (l.length + 1) 0 (bst l 0 8)

/-- The steps cover the bytes from a place on. -/
def Tile (l : List UInt8) : Nat → List (Nat × Nat) → Prop
  | pos, [] => pos = l.length
  | pos, m :: r => pos < l.length ∧ ((m = (1, 0) ∧ Tile l (pos + 1) r) ∨ (4 ≤ m.1 ∧ Good l pos m ∧ (m.1 = 4 → m.2 < 2048) ∧ Tile l (pos + m.1) r))

theorem prs_tile (l : List UInt8) (hn : l.length ≤ 1048576) : ∀ f i m, l.length - i < f → i ≤ l.length → Good l i m → Tile l i (prs l f i m)
  | 0, i, m, hf, _, _ => by omega
  | f + 1, i, m, hf, hi, hm => by
    unfold prs
    by_cases h0 : l.length ≤ i
    · rw [if_pos h0]; show i = l.length; omega
    rw [if_neg h0]
    by_cases hw : wor m = false
    · rw [if_pos hw]
      exact ⟨by omega, .inl ⟨rfl, prs_tile l hn f _ _ (by omega) (by omega) (bst_good _ _ _)⟩⟩
    rw [if_neg hw]
    have hw' : wor m = true := by simpa using hw
    by_cases hz : lazy l i m = true
    · rw [if_pos hz]
      exact ⟨by omega, .inl ⟨rfl, prs_tile l hn f _ _ (by omega) (by omega) (bst_good _ _ _)⟩⟩
    rw [if_neg hz]
    have h4 := wor_four hw'
    rcases hm with rfl | hg
    · simp at h4
    obtain ⟨g1, g2, g3, g4, g5⟩ := hg
    refine ⟨by omega, .inr ⟨h4, .inr ⟨g1, g2, g3, g4, g5⟩, fun h => wor_far hw' h (by omega), prs_tile l hn f _ _ (by omega) (by omega) (bst_good _ _ _)⟩⟩

theorem steps_tile (l : List UInt8) (hn : l.length ≤ 1048576) : Tile l 0 (steps l) := prs_tile l hn _ _ _ (by omega) (Nat.zero_le _) (bst_good _ _ _)

theorem prs_match (l : List UInt8) (i0 t : Nat) (h4 : i0 + 4 ≤ l.length) (hti : t < i0) (hnear : i0 - t ≤ 8) (heq : ∀ k, k < 4 → bt l (t + k) = bt l (i0 + k)) :
    ∀ f i m, l.length - i < f → Good l i m → (wor m = true ∨ (m = bst l i 8 ∧ i ≤ i0)) → ∃ s ∈ prs l f i m, 4 ≤ s.1
  | 0, i, m, hf, _, _ => by omega
  | f + 1, i, m, hf, hm, hc => by
    unfold prs
    have hilt : ¬ l.length ≤ i := by
      rcases hc with hc | ⟨_, hc⟩
      · have := wor_four hc
        rcases hm with rfl | hg
        · simp at this
        · have := hg.2.2.2.1; omega
      · omega
    rw [if_neg hilt]
    by_cases hw : wor m = false
    · rw [if_pos hw]
      have hlt : i < i0 := by
        rcases hc with hc | ⟨rfl, hc⟩
        · rw [hw] at hc; cases hc
        · rcases Nat.lt_or_ge i i0 with h | h
          · exact h
          · obtain rfl : i = i0 := by omega
            rw [bst_finds l i t h4 hti hnear heq] at hw; cases hw
      obtain ⟨s, hs, h⟩ := prs_match l i0 t h4 hti hnear heq f (i + 1) (bst l (i + 1) 8) (by omega) (bst_good _ _ _) (.inr ⟨rfl, by omega⟩)
      exact ⟨s, List.mem_cons_of_mem _ hs, h⟩
    rw [if_neg hw]
    have hw' : wor m = true := by simpa using hw
    by_cases hz : lazy l i m = true
    · rw [if_pos hz]
      have hwn : wor (bst l (i + 1) 4) = true := by simp [lazy] at hz; exact hz.2.1
      obtain ⟨s, hs, h⟩ := prs_match l i0 t h4 hti hnear heq f (i + 1) (bst l (i + 1) 4) (by omega) (bst_good _ _ _) (.inl hwn)
      exact ⟨s, List.mem_cons_of_mem _ hs, h⟩
    · rw [if_neg hz]
      exact ⟨m, List.mem_cons_self, wor_four hw'⟩

theorem steps_match (l : List UInt8) (i0 t : Nat) (h4 : i0 + 4 ≤ l.length) (hti : t < i0) (hnear : i0 - t ≤ 8) (heq : ∀ k, k < 4 → bt l (t + k) = bt l (i0 + k)) : ∃ s ∈ steps l, 4 ≤ s.1 :=
  prs_match l i0 t h4 hti hnear heq _ _ _ (by omega) (bst_good _ _ _) (.inr ⟨rfl, Nat.zero_le _⟩)

end Go.Proofs.Qxb6625871aDoor
