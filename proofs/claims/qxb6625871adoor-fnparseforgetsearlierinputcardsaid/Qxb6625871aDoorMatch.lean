import Derived.Test.Qxb6625871aDoorLeaf
import Derived.Laws.BitsAllLaws
/-! The walk of matchLen. -/
namespace Go.Proofs.Qxb6625871aDoor
open Go.RowKit Go.Sort

/-- The number that eight bytes spell. -/
def le8 (l : List UInt8) (i : Nat) : Nat := Lib.leNat [bt l i, bt l (i + 1), bt l (i + 2), bt l (i + 3), bt l (i + 4), bt l (i + 5), bt l (i + 6), bt l (i + 7)]

theorem leNat_lt : ∀ r : List UInt8, Lib.leNat r < 256 ^ r.length
  | [] => by simp [Lib.leNat]
  | b :: r => by
    have h := leNat_lt r
    have hb := b.toNat_lt
    simp only [Lib.leNat, List.length_cons, Nat.pow_succ]
    omega

theorem le8_lt (l : List UInt8) (i : Nat) : le8 l i < 18446744073709551616 := by
  show Lib.leNat _ < _
  refine Nat.lt_of_lt_of_eq (leNat_lt _) ?_
  simp

theorem leNat_app : ∀ r q : List UInt8, Lib.leNat (r ++ q) = Lib.leNat r + 256 ^ r.length * Lib.leNat q
  | [], q => by simp [Lib.leNat]
  | b :: r, q => by
    rw [List.cons_append]
    simp only [Lib.leNat, List.length_cons, Nat.pow_succ]
    rw [leNat_app r q, Nat.mul_add, Nat.mul_comm (256 ^ r.length) 256, Nat.mul_assoc]
    omega

/-- What k bytes spell. -/
def leK (l : List UInt8) (i : Nat) : Nat → Nat
  | 0 => 0
  | k + 1 => leK l i k + 256 ^ k * (bt l (i + k)).toNat

theorem leK_is (l : List UInt8) (i : Nat) : ∀ k, leK l i k = Lib.leNat ((List.range k).map fun t => bt l (i + t))
  | 0 => rfl
  | k + 1 => by
    rw [List.range_succ, List.map_append, leNat_app, leK, leK_is l i k]
    simp [Lib.leNat]

theorem le8_mod (l : List UInt8) (i k : Nat) (hk : k ≤ 8) : le8 l i % 256 ^ k = leK l i k := by
  have h1 : le8 l i = Lib.leNat ((List.range 8).map fun t => bt l (i + t)) := rfl
  have h2 : (List.range 8).map (fun t => bt l (i + t)) = (List.range k).map (fun t => bt l (i + t)) ++ ((List.range 8).map (fun t => bt l (i + t))).drop k := by
    have := List.take_append_drop k ((List.range 8).map (fun t => bt l (i + t)))
    rw [← List.map_take, List.take_range, Nat.min_eq_left hk] at this
    exact this.symm
  rw [h1, h2, leNat_app, ← leK_is, List.length_map, List.length_range, Nat.add_mul_mod_self_left, Nat.mod_eq_of_lt]
  rw [leK_is]
  have := leNat_lt ((List.range k).map fun t => bt l (i + t))
  simpa using this

theorem xor_zero {a b : Nat} (h : a ^^^ b = 0) : a = b := by
  apply Nat.eq_of_testBit_eq
  intro i
  have := Nat.testBit_xor a b i
  rw [h, Nat.zero_testBit] at this
  generalize a.testBit i = x at *
  generalize b.testBit i = y at *
  cases x <;> cases y <;> simp_all

theorem leK_congr (l : List UInt8) (i j : Nat) : ∀ k, (∀ t, t < k → bt l (i + t) = bt l (j + t)) → leK l i k = leK l j k
  | 0, _ => rfl
  | k + 1, h => by unfold leK; rw [leK_congr l i j k (fun t ht => h t (by omega)), h k (by omega)]

theorem pow8 (k : Nat) : 256 ^ k = 2 ^ (8 * k) := by rw [Nat.pow_mul]

/-- The first place where eight bytes differ is told by the trailing zeros. -/
theorem ctz_first (l : List UInt8) (j i k : Nat) (hk : k < 8) (heq : ∀ t, t < k → bt l (j + t) = bt l (i + t)) (hne : bt l (j + k) ≠ bt l (i + k)) :
    le8 l j ^^^ le8 l i ≠ 0 ∧ Lib.ctz 64 (le8 l j ^^^ le8 l i) / 8 = k := by
  have hx1 : (le8 l j ^^^ le8 l i) % 2 ^ (8 * k) = 0 := by
    rw [Nat.xor_mod_two_pow, ← pow8, le8_mod l j k (by omega), le8_mod l i k (by omega), leK_congr l j i k heq, Nat.xor_self]
  have hlk : leK l j (k + 1) ≠ leK l i (k + 1) := by
    intro e
    unfold leK at e
    rw [leK_congr l j i k heq] at e
    have e2 : 256 ^ k * (bt l (j + k)).toNat = 256 ^ k * (bt l (i + k)).toNat := by omega
    exact hne (UInt8.toNat_inj.1 (Nat.eq_of_mul_eq_mul_left (Nat.pow_pos (by decide)) e2))
  have hx2 : (le8 l j ^^^ le8 l i) % 2 ^ (8 * (k + 1)) ≠ 0 := by
    intro e
    rw [Nat.xor_mod_two_pow, ← pow8, le8_mod l j _ (by omega), le8_mod l i _ (by omega)] at e
    exact hlk (xor_zero e)
  have hx0 : le8 l j ^^^ le8 l i ≠ 0 := by intro e; rw [e] at hx2; simp at hx2
  refine ⟨hx0, ?_⟩
  have hlt : le8 l j ^^^ le8 l i < 2 ^ 64 := Nat.xor_lt_two_pow (by simpa using le8_lt l j) (by simpa using le8_lt l i)
  obtain ⟨m, hm, hc⟩ := Lib.ctzFrom_spec 64 _ (by omega) hlt
  have hct : Lib.ctz 64 (le8 l j ^^^ le8 l i) = Lib.ctzFrom 64 (le8 l j ^^^ le8 l i) := by unfold Lib.ctz; rw [if_neg hx0]
  rw [hct]
  generalize Lib.ctzFrom 64 (le8 l j ^^^ le8 l i) = c at hm hc
  rw [hm] at hx1 hx2
  have hlo : 8 * k ≤ c := by
    rcases Nat.lt_or_ge c (8 * k) with h | h
    · exfalso
      obtain ⟨d, hd⟩ : ∃ d, 8 * k = c + (d + 1) := ⟨8 * k - c - 1, by omega⟩
      rw [hd, Nat.pow_add, Nat.mul_mod_mul_left, Nat.pow_succ] at hx1
      have hp : 0 < 2 ^ c := Nat.pow_pos (by decide)
      have h0 : (2 * m + 1) % (2 ^ d * 2) = 0 := by
        rcases Nat.mul_eq_zero.1 hx1 with h | h
        · omega
        · exact h
      have := Nat.mod_mod_of_dvd (2 * m + 1) (Nat.dvd_mul_left 2 (2 ^ d))
      rw [h0] at this
      omega
    · exact h
  have hhi : c < 8 * (k + 1) := by
    rcases Nat.lt_or_ge c (8 * (k + 1)) with h | h
    · exact h
    · exfalso
      apply hx2
      obtain ⟨d, hd⟩ : ∃ d, c = 8 * (k + 1) + d := ⟨c - 8 * (k + 1), by omega⟩
      rw [hd, Nat.pow_add, Nat.mul_assoc]
      exact Nat.mul_mod_right _ _
  omega

/-- Eight bytes alike. -/
theorem le8_same (l : List UInt8) (j i : Nat) (h : le8 l j ^^^ le8 l i = 0) : ∀ t, t < 8 → bt l (j + t) = bt l (i + t) := by
  intro t
  induction t using Nat.strongRecOn with
  | _ t ih =>
    intro ht
    by_cases hne : bt l (j + t) = bt l (i + t)
    · exact hne
    · exact absurd h (ctz_first l j i t ht (fun s hs => ih s hs (by omega)) hne).1

theorem same_le8 (l : List UInt8) (j i : Nat) (h : ∀ t, t < 8 → bt l (j + t) = bt l (i + t)) : le8 l j ^^^ le8 l i = 0 := by
  have e : le8 l j = le8 l i := by
    have h1 := le8_mod l j 8 (by omega)
    have h2 := le8_mod l i 8 (by omega)
    rw [leK_congr l j i 8 h] at h1
    have l1 := le8_lt l j
    have l2 := le8_lt l i
    rw [← h2, Nat.mod_eq_of_lt (by simpa using l1), Nat.mod_eq_of_lt (by simpa using l2)] at h1
    exact h1
  rw [e, Nat.xor_self]

theorem ml_found (l : List UInt8) (j i k lim : Nat) (hA : ∀ t, t < k → bt l (j + t) = bt l (i + t)) (h8 : k + 8 ≤ lim) (hz : le8 l (j + k) ^^^ le8 l (i + k) ≠ 0) :
    k + Lib.ctz 64 (le8 l (j + k) ^^^ le8 l (i + k)) / 8 = ml l j i lim ∧ Lib.ctz 64 (le8 l (j + k) ^^^ le8 l (i + k)) / 8 < 8 := by
  have ht := ml_le l (j + k) (i + k) 8
  have hlt : ml l (j + k) (i + k) 8 < 8 := by
    rcases Nat.lt_or_ge (ml l (j + k) (i + k) 8) 8 with h | h
    · exact h
    · exact absurd (same_le8 l (j + k) (i + k) fun t h8 => ml_eq l (j + k) (i + k) 8 (by omega)) hz
  have hne := ml_ne l (j + k) (i + k) 8 hlt
  have hc := (ctz_first l (j + k) (i + k) _ hlt (fun t h => ml_eq l _ _ 8 h) hne).2
  refine ⟨?_, by omega⟩
  symm
  rw [hc]
  refine ml_unique l j i lim _ (by omega) (fun t h => ?_) (fun _ => ?_)
  · by_cases hk : t < k
    · exact hA t hk
    · have := ml_eq l (j + k) (i + k) 8 (t := t - k) (by omega)
      rw [show j + k + (t - k) = j + t by omega, show i + k + (t - k) = i + t by omega] at this
      exact this
  · rw [← Nat.add_assoc, ← Nat.add_assoc]; exact hne

theorem Src.below {w w' : World} {b : Nat} {l : List UInt8} (h : Src w b l) (hb : Below w.heap.size w w') : Src w' b l := fun i hi => by
  rw [hb.cell (block_lt_of_cell (h i hi))]; exact h i hi
theorem tab_below {w w' : World} {g : Nat} {t : List Nat} (h : TabAt g t w) (hb : Below w.heap.size w w') : TabAt g t w' := fun i hi => by
  rw [hb.cell (block_lt_of_cell (h i hi))]; exact h i hi

theorem u64_at (b j c : Nat) (l : List UInt8) (n : Nat) (w : World) (hn : 8 ≤ n) (hj : j + 8 ≤ l.length) (hs : Src w b l) :
    Calls Tryd.prog 22 #[.agg #[], .slice (some ⟨b, j, none⟩) n c] w fun e w' => e = .returned (.int .u64 (le8 l j : Int)) ∧ Below w.heap.size w w' :=
  Tryd.binary_LE_Uint64 b j n c _ _ _ _ _ _ _ _ w hn (hs j (by omega)) (hs (j + 1) (by omega)) (hs (j + 2) (by omega)) (hs (j + 3) (by omega)) (hs (j + 4) (by omega)) (hs (j + 5) (by omega)) (hs (j + 6) (by omega)) (hs (j + 7) (by omega))

set_option maxHeartbeats 1000000 in
theorem mlen_at (b j i nj cj ni ci lim : Nat) (l : List UInt8) (w : World) (hs : Src w b l) (hT : TabAt 1 Lib.deBruijn64tab w)
    (hj : j + lim ≤ l.length) (hi : i + lim ≤ l.length) (hnj : lim ≤ nj) (hni : lim ≤ ni) (hcj : nj ≤ cj) (hci : ni ≤ ci) (hL : lim ≤ 1048576) :
    Calls Tryd.prog 19 #[.slice (some ⟨b, j, none⟩) nj cj, .slice (some ⟨b, i, none⟩) ni ci, .int .i64 (lim : Int)] w
      fun e w' => e = .returned (.int .i64 (ml l j i lim : Int)) ∧ Below w.heap.size w w' := by
  have hTh : Hid (TabAt 1 Lib.deBruijn64tab w) := hT
  have hsh : Hid (Src w b l) := hs
  clear hT hs
  go_enter Tryd.func19, Tryd.ntmps19
  go_wp2
  go_loopw [7] (fun kv wr => ∃ k : Nat, kv = .int .i64 (k : Int) ∧ k ≤ lim ∧ Hid (∀ t, t < k → bt l (j + t) = bt l (i + t)) ∧ Hid (Below w.heap.size w wr)) (fun kv _ => lim - (intOf kv).toNat)
  case atStart => exact ⟨0, rfl, Nat.zero_le _, fun t ht => by omega, Below.refl _ _⟩
  case round =>
    obtain ⟨k, rfl, hk, hA, hB⟩ := hrel
    have hS' : Hid (Src wr b l) := hsh.out.below hB.out
    have hT' : Hid (TabAt 1 Lib.deBruijn64tab wr) := tab_below hTh.out hB.out
    by_cases h8 : k + 8 ≤ lim
    · obtain ⟨dj, rfl⟩ : ∃ dj, nj = k + dj := ⟨nj - k, by omega⟩
      obtain ⟨di, rfl⟩ : ∃ di, ni = k + di := ⟨ni - k, by omega⟩
      obtain ⟨ej, rfl⟩ : ∃ ej, cj = k + ej := ⟨cj - k, by omega⟩
      obtain ⟨ei, rfl⟩ : ∃ ei, ci = k + ei := ⟨ci - k, by omega⟩
      have cJ : ∀ d os, Calls Tryd.prog 22 #[.agg #[], .slice (some ⟨b, j + k, none⟩) dj ej] (grow (redrawn wr d) os) fun e w'' => e = .returned (.int .u64 (le8 l (j + k) : Int)) ∧ ∃ p : Regrown, w'' = grow (redrawn wr p.d) p.os := fun d os =>
        Calls.regrown_of (u64_at b (j + k) ej l dj _ (by omega) (by omega) (hS'.out.below (below_regrown wr d os)))
      have cI : ∀ d os, Calls Tryd.prog 22 #[.agg #[], .slice (some ⟨b, i + k, none⟩) di ei] (grow (redrawn wr d) os) fun e w'' => e = .returned (.int .u64 (le8 l (i + k) : Int)) ∧ ∃ p : Regrown, w'' = grow (redrawn wr p.d) p.os := fun d os =>
        Calls.regrown_of (u64_at b (i + k) ei l di _ (by omega) (by omega) (hS'.out.below (below_regrown wr d os)))
      have hx := u64_xor_nat (le8 l (j + k)) (le8 l (i + k)) (le8_lt _ _) (le8_lt _ _)
      go_wp2_with fail
      refine wp_region_quiet_below (by kernel_rfl) (by kernel_rfl) ?_
      iterate 5 (go_big_quiet_step (exact cJ _ _))
      repeat (go_big_quiet_step (exact cI _ _))
      refine wpQuiet_nil ?_
      intro _ hw'
      obtain ⟨⟨dq, osq⟩, hw''⟩ := hw'
      subst hw''
      by_cases hz : le8 l (j + k) ^^^ le8 l (i + k) = 0
      · have hz' : (((le8 l (j + k) ^^^ le8 l (i + k) : Nat) : Int) == 0) = true := by rw [hz]; rfl
        have hA2 : Hid (∀ t, t < k + 8 → bt l (j + t) = bt l (i + t)) := fun t ht => by
          by_cases hk : t < k
          · exact hA.out t hk
          · have := le8_same l (j + k) (i + k) hz (t - k) (by omega)
            rw [show j + k + (t - k) = j + t by omega, show i + k + (t - k) = i + t by omega] at this
            exact this
        go_wp2_with fail
        go_roundw
        case rel => exact ⟨k + 8, by go_num, by omega, hA2, hB.out.trans ((below_regrown wr dq osq).mono hB.out.size)⟩
        case measure => simp [intOf]; omega
      · have hz' : (((le8 l (j + k) ^^^ le8 l (i + k) : Nat) : Int) == 0) = false := by simp; omega
        obtain ⟨hf, hc8⟩ := ml_found l j i k lim hA.out h8 hz
        have HF : Hid (_ = _) := hf
        clear hf
        go_wp2_with fail
        refine (Tryd.bits_TrailingZeros64 _ (Nat.xor_lt_two_pow (n := 64) (by simpa using le8_lt l _) (by simpa using le8_lt l _)) _ (fun _ => tab_below hT'.out (below_regrown wr dq osq))).mono ?_
        rintro e w1 ⟨rfl, rfl⟩
        go_wp2
        go_ret
        exact ⟨ret_int (by rw [← HF.out]; simp), hB.out.trans ((below_regrown wr dq osq).mono hB.out.size)⟩
    · go_wp2
      obtain ⟨wo, rfl⟩ : ∃ wo : World, wo = wr := ⟨_, rfl⟩
      go_loopw [7] (fun kv wr => ∃ k : Nat, kv = .int .i64 (k : Int) ∧ k ≤ lim ∧ Hid (∀ t, t < k → bt l (j + t) = bt l (i + t)) ∧ Hid (Below w.heap.size w wr)) (fun kv _ => lim - (intOf kv).toNat)
      case atStart => exact ⟨k, rfl, hk, hA, hB⟩
      case round =>
        obtain ⟨k, rfl, hk, hA, hB⟩ := hrel
        have hS' : Hid (Src wr b l) := hsh.out.below hB.out
        by_cases hlt : k < lim
        · have cj := hS'.out (j + k) (by omega)
          have ci := hS'.out (i + k) (by omega)
          by_cases he : bt l (j + k) = bt l (i + k)
          · have he' : (((bt l (j + k)).toNat : Int) == ((bt l (i + k)).toNat : Int)) = true := by rw [he]; simp
            have hA2 : Hid (∀ t, t < k + 1 → bt l (j + t) = bt l (i + t)) := fun t ht => by
              by_cases hk : t < k
              · exact hA.out t hk
              · obtain rfl : t = k := by omega
                exact he
            clear he
            go_wp2_with fail
            go_quiet (fail)
            go_wp2
            go_roundw
            case rel => exact ⟨k + 1, by go_num, by omega, hA2, below_drewN hB.out _⟩
            case measure => simp [intOf]; omega
          · have he' : (((bt l (j + k)).toNat : Int) == ((bt l (i + k)).toNat : Int)) = false := by
              simp only [beq_eq_false_iff_ne, ne_eq]
              intro h
              exact he (UInt8.toNat_inj.1 (by omega))
            have HM : Hid (ml l j i lim = k) := ml_unique l j i lim k hk hA.out (fun _ => he)
            clear he
            go_wp2_with fail
            go_quiet (fail)
            go_wp2
            go_ret
            exact ⟨ret_int (by rw [HM.out]), below_drewN hB.out _⟩
        · have HM : Hid (ml l j i lim = k) := ml_unique l j i lim k hk hA.out (fun h => absurd h hlt)
          go_wp2_with fail
          go_quiet (fail)
          go_wp2
          go_ret
          exact ⟨ret_int (by rw [HM.out]), below_drewN hB.out _⟩

end Go.Proofs.Qxb6625871aDoor
