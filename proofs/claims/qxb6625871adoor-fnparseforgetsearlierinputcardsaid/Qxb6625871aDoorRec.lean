import Derived.Test.Qxb6625871aDoorZz
/-! The walks of zzBytes, zzRecursWithinEight. -/
namespace Go.Proofs.Qxb6625871aDoor
open Go.RowKit Go.Sort

theorem ne_bytes {a b : UInt8} (h : a ≠ b) : ((a.toNat : Int) == (b.toNat : Int)) = false := by
  simp only [beq_eq_false_iff_ne, ne_eq]
  intro e
  exact h (UInt8.toNat_inj.1 (by omega))

set_option maxHeartbeats 400000 in
theorem bytes1_yes (a : Option Addr) (n c : Nat) (w : World) (h : n ≤ 1048576) : Calls Tryd.prog 5 #[.slice a n c] w fun e w' => e = .returned (.bool true) ∧ w' = w := by
  go_enter Tryd.func5, Tryd.ntmps5
  go_wp2
  go_ret
  exact ⟨rfl, rfl⟩
set_option maxHeartbeats 400000 in
theorem bytes1_no (a : Option Addr) (n c : Nat) (w : World) (h : 1048576 < n) (hm : n ≤ maxLen) : Calls Tryd.prog 5 #[.slice a n c] w fun e w' => e = .returned (.bool false) ∧ w' = w := by
  unfold maxLen at hm
  go_enter Tryd.func5, Tryd.ntmps5
  go_wp2
  go_ret
  exact ⟨rfl, rfl⟩
set_option maxHeartbeats 400000 in
theorem bytes2_yes (a a2 : Option Addr) (n c n2 c2 : Nat) (w : World) (h : n + n2 ≤ 1048576) : Calls Tryd.prog 9 #[.slice a n c, .slice a2 n2 c2] w fun e w' => e = .returned (.bool true) ∧ w' = w := by
  go_enter Tryd.func9, Tryd.ntmps9
  go_wp2
  go_ret
  exact ⟨rfl, rfl⟩
set_option maxHeartbeats 400000 in
theorem bytes2_no (a a2 : Option Addr) (n c n2 c2 : Nat) (w : World) (h : 1048576 < n + n2) (hm : n ≤ maxLen) (hm2 : n2 ≤ maxLen) : Calls Tryd.prog 9 #[.slice a n c, .slice a2 n2 c2] w fun e w' => e = .returned (.bool false) ∧ w' = w := by
  unfold maxLen at hm hm2
  by_cases h1 : 1048576 < n
  · go_enter Tryd.func9, Tryd.ntmps9
    go_wp2
    go_ret
    exact ⟨rfl, rfl⟩
  · by_cases h2 : 1048576 < n2
    · go_enter Tryd.func9, Tryd.ntmps9
      go_wp2
      go_ret
      exact ⟨rfl, rfl⟩
    · go_enter Tryd.func9, Tryd.ntmps9
      go_wp2
      go_ret
      exact ⟨rfl, rfl⟩

set_option maxHeartbeats 4000000 in
set_option maxRecDepth 100000 in
theorem recurs_at (q : Option Addr) (n c : Nat) (l : List UInt8) (w : World) (hn : l.length = n) (hsm : n ≤ 1048576) (hv : 0 < n → ∃ b, q = some ⟨b, 0, none⟩ ∧ n ≤ c ∧ Src w b l) :
    Calls Tryd.prog 8 #[.slice q n c] w fun e w' => ∃ r, e = .returned (.bool r) ∧ (r = true → ∃ i t, i + 4 ≤ l.length ∧ t < i ∧ i - t ≤ 8 ∧ ∀ k, k < 4 → bt l (t + k) = bt l (i + k)) ∧ Below w.heap.size w w' := by
  have HN : Hid (l.length = n) := hn
  have HV : Hid (0 < n → ∃ b, q = some ⟨b, 0, none⟩ ∧ n ≤ c ∧ Src w b l) := hv
  clear hn hv
  go_enter Tryd.func8, Tryd.ntmps8
  go_wp2
  go_loopw [3] (fun iv wr => ∃ i : Nat, iv = .int .i64 (i : Int) ∧ 1 ≤ i ∧ i ≤ n + 1 ∧ Hid (Below w.heap.size w wr)) (fun iv _ => n + 1 - (intOf iv).toNat)
  case atStart => exact ⟨1, rfl, Nat.le_refl _, by omega, Below.refl _ _⟩
  case round =>
    obtain ⟨i, rfl, hi1, hin, hB⟩ := hrel
    by_cases h4 : i + 4 ≤ n
    · obtain ⟨b, rfl, hnc, hs⟩ := HV.out (by omega)
      have hS : Hid (Src w b l) := hs
      clear hs
      have hdec : decide ((i : Int) + 4 ≤ (n : Int)) = true := decide_eq_true (by omega)
      go_wp2
      try rw [hdec]
      clear hdec
      obtain ⟨wo, rfl⟩ : ∃ wo : World, wo = wr := ⟨_, rfl⟩
      go_loopw [4] (fun dv wr => ∃ dd : Nat, dv = .int .i64 (dd : Int) ∧ 1 ≤ dd ∧ dd ≤ 9 ∧ Hid (Below w.heap.size w wr)) (fun dv _ => 9 - (intOf dv).toNat)
      case atStart => exact ⟨1, rfl, Nat.le_refl _, by omega, hB⟩
      case round =>
        clear hB
        obtain ⟨dd, rfl, hd1, hd9, hB⟩ := hrel
        by_cases hin2 : dd ≤ 8 ∧ dd ≤ i
        · obtain ⟨hd8, hdi⟩ := hin2
          obtain ⟨tt, hpar⟩ : ∃ tt, i = tt + dd := ⟨i - dd, by omega⟩
          have hsub : (i : Int) - dd = (tt : Int) := by omega
          have htt : tt + 4 ≤ n := by omega
          have hS' : Hid (Src wr b l) := hS.out.below hB.out
          have p0 := hS'.out tt (by rw [HN.out]; omega)
          have p1 := hS'.out (tt + 1) (by rw [HN.out]; omega)
          have p2 := hS'.out (tt + 2) (by rw [HN.out]; omega)
          have p3 := hS'.out (tt + 3) (by rw [HN.out]; omega)
          have r0 := hS'.out i (by rw [HN.out]; omega)
          have r1 := hS'.out (i + 1) (by rw [HN.out]; omega)
          have r2 := hS'.out (i + 2) (by rw [HN.out]; omega)
          have r3 := hS'.out (i + 3) (by rw [HN.out]; omega)
          by_cases h0 : bt l tt = bt l i
          · have g0 : (((bt l tt).toNat : Int) == ((bt l i).toNat : Int)) = true := by rw [h0]; simp
            by_cases h1 : bt l (tt + 1) = bt l (i + 1)
            · have g1 : (((bt l (tt + 1)).toNat : Int) == ((bt l (i + 1)).toNat : Int)) = true := by rw [h1]; simp
              by_cases h2 : bt l (tt + 2) = bt l (i + 2)
              · have g2 : (((bt l (tt + 2)).toNat : Int) == ((bt l (i + 2)).toNat : Int)) = true := by rw [h2]; simp
                by_cases h3 : bt l (tt + 3) = bt l (i + 3)
                · have g3 : (((bt l (tt + 3)).toNat : Int) == ((bt l (i + 3)).toNat : Int)) = true := by rw [h3]; simp
                  have HF : Hid (∃ i t, i + 4 ≤ l.length ∧ t < i ∧ i - t ≤ 8 ∧ ∀ k, k < 4 → bt l (t + k) = bt l (i + k)) := by
                    refine ⟨i, tt, by rw [HN.out]; omega, by omega, by omega, fun k hk => ?_⟩
                    match k, hk with
                    | 0, _ => exact h0
                    | 1, _ => exact h1
                    | 2, _ => exact h2
                    | 3, _ => exact h3
                  clear h0 h1 h2 h3 hpar
                  go_wp2_with fail
                  go_quiet (fail)
                  go_wp2
                  go_ret
                  exact ⟨true, rfl, fun _ => HF.out, below_drewN hB.out _⟩
                · have g3 : (((bt l (tt + 3)).toNat : Int) == ((bt l (i + 3)).toNat : Int)) = false := ne_bytes h3
                  clear h0 h1 h2 h3
                  clear hpar
                  go_wp2_with fail
                  go_quiet (fail)
                  go_wp2
                  go_roundw
                  case rel => first | exact ⟨dd + 1, by go_num, by omega, by omega, below_drewN hB.out _⟩ | ((repeat apply Exists.intro); exact ⟨⟨dd + 1, by go_num, by omega, by omega, below_drewN hB.out _⟩, rfl⟩)
                  case measure => simp [intOf]; omega
              · have g2 : (((bt l (tt + 2)).toNat : Int) == ((bt l (i + 2)).toNat : Int)) = false := ne_bytes h2
                clear h0 h1 h2
                clear hpar
                go_wp2_with fail
                go_quiet (fail)
                go_wp2
                go_roundw
                case rel => first | exact ⟨dd + 1, by go_num, by omega, by omega, below_drewN hB.out _⟩ | ((repeat apply Exists.intro); exact ⟨⟨dd + 1, by go_num, by omega, by omega, below_drewN hB.out _⟩, rfl⟩)
                case measure => simp [intOf]; omega
            · have g1 : (((bt l (tt + 1)).toNat : Int) == ((bt l (i + 1)).toNat : Int)) = false := ne_bytes h1
              clear h0 h1
              clear hpar
              go_wp2_with fail
              go_quiet (fail)
              go_wp2
              go_roundw
              case rel => first | exact ⟨dd + 1, by go_num, by omega, by omega, below_drewN hB.out _⟩ | ((repeat apply Exists.intro); exact ⟨⟨dd + 1, by go_num, by omega, by omega, below_drewN hB.out _⟩, rfl⟩)
              case measure => simp [intOf]; omega
          · have g0 : (((bt l tt).toNat : Int) == ((bt l i).toNat : Int)) = false := ne_bytes h0
            clear h0
            clear hpar
            go_wp2_with fail
            go_quiet (fail)
            go_wp2
            go_roundw
            case rel => first | exact ⟨dd + 1, by go_num, by omega, by omega, below_drewN hB.out _⟩ | ((repeat apply Exists.intro); exact ⟨⟨dd + 1, by go_num, by omega, by omega, below_drewN hB.out _⟩, rfl⟩)
            case measure => simp [intOf]; omega
        · have hnd : ¬ dd ≤ 8 ∨ (dd ≤ 8 ∧ ¬ dd ≤ i) := by omega
          clear hin2
          rcases hnd with hnd | ⟨hd8, hnd⟩
          all_goals
            go_wp2
            go_roundw
            case rel => exact ⟨i + 1, by go_num, by omega, by omega, hB⟩
            case measure => simp [intOf]; omega
    · go_wp2
      go_ret
      exact ⟨false, rfl, fun h => absurd h (by decide), hB.out⟩

end Go.Proofs.Qxb6625871aDoor
