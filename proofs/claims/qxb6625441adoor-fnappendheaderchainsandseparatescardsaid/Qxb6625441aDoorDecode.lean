import Derived.Test.Qxb6625441aDoorSmall
/-! The walks of zzDecodes and zzWidth. -/
namespace Go.Proofs.Qxb6625441aDoor
open Go.RowKit Go.Lib

set_option maxHeartbeats 1000000 in
theorem dec_pos (b o c : Nat) (t : Int) (n : Int) (h0 : 0 ≤ n) (h1 : n ≤ 9223372036854775807) (L : Nat) (hL1 : 1 ≤ L) (hL2 : L ≤ 19) (hc : L + 3 ≤ c) (d p : Nat → Nat) (w : World)
    (hd : ∀ k, k < L → 48 ≤ d k ∧ d k ≤ 57) (hp0 : p 0 = 0) (hps : ∀ k, k < L → p (k + 1) = p k * 10 + (d k - 48)) (hpb : ∀ k, p k ≤ 9223372036854775808) (hpL : p L = n.natAbs) (hz : 1 < L → d 0 ≠ 48)
    (c0 : w.cell? ⟨b, o, none⟩ = some (.int .u8 t)) (cd : ∀ k, k < L → w.cell? ⟨b, o + 1 + k, none⟩ = some (.int .u8 (d k : Int)))
    (cr : w.cell? ⟨b, o + (L + 1), none⟩ = some (.int .u8 13)) (cn : w.cell? ⟨b, o + (L + 2), none⟩ = some (.int .u8 10)) :
    Calls Tryd.prog 8 #[.slice (some ⟨b, o, none⟩) (L + 3) c, .int .u8 t, .int .i64 n] w fun e w' => e = .returned (.bool true) ∧ w' = w := by
  have hLz : ((L : Int) == 0) = false := by simp; omega
  have c1 : w.cell? ⟨b, o + 1, none⟩ = some (.int .u8 (d 0 : Int)) := cd 0 (by omega)
  have HP0 : Hid (p 0 = 0) := hp0
  have HPS : Hid (∀ k, k < L → p (k + 1) = p k * 10 + (d k - 48)) := hps
  have HPL : Hid (p L = n.natAbs) := hpL
  have HPB : Hid (∀ k, p k ≤ 9223372036854775808) := hpb
  have HD : Hid (∀ k, k < L → 48 ≤ d k ∧ d k ≤ 57) := hd
  have HCD : Hid (∀ k, k < L → w.cell? ⟨b, o + 1 + k, none⟩ = some (.int .u8 (d k : Int))) := cd
  by_cases hL : 1 < L
  all_goals
    have hz0 : 1 < L → (((d 0 : Nat) : Int) == 48) = false := fun hL => by have := hz hL; simp; omega
    clear hp0 hps hpL hpb hd cd hz
    try (have hz1 := hz0 hL)
    clear hz0
    go_enter Tryd.func8, Tryd.ntmps8
    go_wp2_with fail
    go_loop [8, 9] (fun v i => ∃ k : Nat, k ≤ L ∧ i = .int .i64 k ∧ v = .int .u64 (p k : Int)) (fun _ i => L - (intOf i).toNat)
    case atStart => exact ⟨0, Nat.zero_le _, rfl, by rw [HP0.out]; rfl⟩
    case round =>
      obtain ⟨k, hk, rfl, rfl⟩ := hrel
      by_cases hlt : k < L
      · have ck := HCD.out k hlt
        have hdk := HD.out k hlt
        obtain ⟨hd1, hd2⟩ := hdk
        have HS : Hid (p (k + 1) = p k * 10 + (d k - 48)) := HPS.out k hlt
        have hb1 : p k * 10 + (d k - 48) ≤ 9223372036854775808 := by rw [← HS.out]; exact HPB.out (k + 1)
        go_wp2
        go_round
        case rel => exact ⟨k + 1, by omega, by go_num, by rw [HS.out]; go_num⟩
        case measure => simp [intOf]; omega
      · obtain rfl : k = L := by omega
        have HE : Hid ((p k : Int) = (n.natAbs : Int)) := by show _ = _; rw [HPL.out]
        go_wp2_with (go_at_call 13; refine (mag_any n w (by omega) h1).mono ?_; rintro e w' ⟨rfl, rfl⟩)
        go_ret
        exact ⟨ret_bool (by rw [HE.out]; simp), rfl⟩
set_option maxHeartbeats 1000000 in
theorem dec_neg (b o c : Nat) (t : Int) (n : Int) (h0 : -9223372036854775808 ≤ n) (h1 : n < 0) (L : Nat) (hL1 : 1 ≤ L) (hL2 : L ≤ 19) (hc : L + 4 ≤ c) (d p : Nat → Nat) (w : World)
    (hd : ∀ k, k < L → 48 ≤ d k ∧ d k ≤ 57) (hp0 : p 0 = 0) (hps : ∀ k, k < L → p (k + 1) = p k * 10 + (d k - 48)) (hpb : ∀ k, p k ≤ 9223372036854775808) (hpL : p L = n.natAbs) (hz : 1 < L → d 0 ≠ 48)
    (cm : w.cell? ⟨b, o + 1, none⟩ = some (.int .u8 45)) (c0 : w.cell? ⟨b, o, none⟩ = some (.int .u8 t)) (cd : ∀ k, k < L → w.cell? ⟨b, o + 1 + 1 + k, none⟩ = some (.int .u8 (d k : Int)))
    (cr : w.cell? ⟨b, o + (L + 2), none⟩ = some (.int .u8 13)) (cn : w.cell? ⟨b, o + (L + 3), none⟩ = some (.int .u8 10)) :
    Calls Tryd.prog 8 #[.slice (some ⟨b, o, none⟩) (L + 4) c, .int .u8 t, .int .i64 n] w fun e w' => e = .returned (.bool true) ∧ w' = w := by
  have hLz : ((L : Int) == 0) = false := by simp; omega
  have hLz2 : ((L : Int) + 1 == 0) = false := by simp; omega
  have c1 : w.cell? ⟨b, o + 1 + 1, none⟩ = some (.int .u8 (d 0 : Int)) := cd 0 (by omega)
  have HP0 : Hid (p 0 = 0) := hp0
  have HPS : Hid (∀ k, k < L → p (k + 1) = p k * 10 + (d k - 48)) := hps
  have HPL : Hid (p L = n.natAbs) := hpL
  have HPB : Hid (∀ k, p k ≤ 9223372036854775808) := hpb
  have HD : Hid (∀ k, k < L → 48 ≤ d k ∧ d k ≤ 57) := hd
  have HCD : Hid (∀ k, k < L → w.cell? ⟨b, o + 1 + 1 + k, none⟩ = some (.int .u8 (d k : Int))) := cd
  by_cases hL : 1 < L
  all_goals
    have hz0 : 1 < L → (((d 0 : Nat) : Int) == 48) = false := fun hL => by have := hz hL; simp; omega
    clear hp0 hps hpL hpb hd cd hz
    try (have hz1 := hz0 hL)
    clear hz0
    go_enter Tryd.func8, Tryd.ntmps8
    go_wp2_with fail
    go_loop [8, 9] (fun v i => ∃ k : Nat, k ≤ L ∧ i = .int .i64 k ∧ v = .int .u64 (p k : Int)) (fun _ i => L - (intOf i).toNat)
    case atStart => exact ⟨0, Nat.zero_le _, rfl, by rw [HP0.out]; rfl⟩
    case round =>
      obtain ⟨k, hk, rfl, rfl⟩ := hrel
      by_cases hlt : k < L
      · have ck := HCD.out k hlt
        have hdk := HD.out k hlt
        obtain ⟨hd1, hd2⟩ := hdk
        have HS : Hid (p (k + 1) = p k * 10 + (d k - 48)) := HPS.out k hlt
        have hb1 : p k * 10 + (d k - 48) ≤ 9223372036854775808 := by rw [← HS.out]; exact HPB.out (k + 1)
        go_wp2
        go_round
        case rel => exact ⟨k + 1, by omega, by go_num, by rw [HS.out]; go_num⟩
        case measure => simp [intOf]; omega
      · obtain rfl : k = L := by omega
        have HE : Hid ((p k : Int) = (n.natAbs : Int)) := by show _ = _; rw [HPL.out]
        go_wp2_with (go_at_call 13; refine (mag_any n w h0 (by omega)).mono ?_; rintro e w' ⟨rfl, rfl⟩)
        go_ret
        exact ⟨ret_bool (by rw [HE.out]; simp), rfl⟩

theorem getD_at (l : List UInt8) (i : Nat) (h : i < l.length) : l.getD i 0 = l[i] := by simp [h]

/-- zzDecodes: a header's own bytes read back. -/
theorem dec_any (v : Value) (t : UInt8) (n : Int) (h0 : -9223372036854775808 ≤ n) (h1 : n ≤ 9223372036854775807) (w : World) (hv : Rd w v (hdr t n))
    (hcap : ∀ a len cap, v = .slice a len cap → len ≤ cap) :
    Calls Tryd.prog 8 #[v, .int .u8 (t.toNat : Int), .int .i64 n] w fun e w' => e = .returned (.bool true) ∧ w' = w := by
  rcases hv with ⟨h, _⟩ | ⟨b, o, c, rfl, hc⟩
  · simp [hdr] at h
  have hcc := hcap _ _ _ rfl
  have hu : n.natAbs < 10000000000000000000 := by omega
  have hL1 := nDigits_pos n.natAbs
  have hL2 := nDigits_le19 n.natAbs hu
  have hlen := decDigits_length n.natAbs
  have hd : ∀ k, k < nDigits n.natAbs → 48 ≤ ((decDigits n.natAbs).getD k 0).toNat ∧ ((decDigits n.natAbs).getD k 0).toNat ≤ 57 := fun k hk => by
    rw [getD_at _ _ (by omega)]; exact digit_lo _ k (by omega)
  have hps : ∀ k, k < nDigits n.natAbs → pre n.natAbs (k + 1) = pre n.natAbs k * 10 + (((decDigits n.natAbs).getD k 0).toNat - 48) := fun k hk => by
    rw [getD_at _ _ (by omega)]; exact pre_succ _ k (by omega)
  have hz : 1 < nDigits n.natAbs → ((decDigits n.natAbs).getD 0 0).toNat ≠ 48 := fun h => by
    rw [getD_at _ _ (by omega)]; exact head_ne _ (by omega)
  by_cases hn : n < 0
  · have e : itoa n = 45 :: decDigits n.natAbs := by unfold itoa; rw [if_pos hn]
    have eh : hdr t n = t :: 45 :: (decDigits n.natAbs ++ [13, 10]) := by simp [hdr, e]
    have el : (hdr t n).length = nDigits n.natAbs + 4 := by rw [eh]; simp [hlen]
    rw [el] at hcc hc ⊢
    rw [eh] at hc
    refine dec_neg b o c (t.toNat : Int) n h0 hn (nDigits n.natAbs) hL1 hL2 hcc (fun k => ((decDigits n.natAbs).getD k 0).toNat) (pre n.natAbs) w hd (pre_zero _) hps (fun k => by have := pre_le n.natAbs k; omega) (pre_all _) hz ?_ ?_ ?_ ?_ ?_
    · have := hc 1 (by omega); simpa using this
    · have := hc 0 (by omega); simpa using this
    · intro k hk
      have := hc (k + 2) (by omega)
      rw [show o + (k + 2) = o + 1 + 1 + k by omega] at this
      rw [this]
      simp only [List.getD_cons_succ]
      rw [getD_at _ k (by simp; omega), getD_at _ k (by omega), List.getElem_append_left (by omega)]
    · have := hc (nDigits n.natAbs + 2) (by omega)
      rw [this]
      simp only [List.getD_cons_succ]
      rw [← hlen]; simp
    · have := hc (nDigits n.natAbs + 3) (by omega)
      rw [this]
      simp only [List.getD_cons_succ]
      rw [← hlen]; simp
  · have e : itoa n = decDigits n.natAbs := by unfold itoa; rw [if_neg hn]; congr 1; omega
    have eh : hdr t n = t :: (decDigits n.natAbs ++ [13, 10]) := by simp [hdr, e]
    have el : (hdr t n).length = nDigits n.natAbs + 3 := by rw [eh]; simp [hlen]
    rw [el] at hcc hc ⊢
    rw [eh] at hc
    refine dec_pos b o c (t.toNat : Int) n (by omega) h1 (nDigits n.natAbs) hL1 hL2 hcc (fun k => ((decDigits n.natAbs).getD k 0).toNat) (pre n.natAbs) w hd (pre_zero _) hps (fun k => by have := pre_le n.natAbs k; omega) (pre_all _) hz ?_ ?_ ?_ ?_
    · have := hc 0 (by omega); simpa using this
    · intro k hk
      have := hc (k + 1) (by omega)
      rw [show o + (k + 1) = o + 1 + k by omega] at this
      rw [this]
      simp only [List.getD_cons_succ]
      rw [getD_at _ k (by simp; omega), getD_at _ k (by omega), List.getElem_append_left (by omega)]
    · have := hc (nDigits n.natAbs + 1) (by omega)
      rw [this]
      simp only [List.getD_cons_succ]
      rw [← hlen]; simp
    · have := hc (nDigits n.natAbs + 2) (by omega)
      rw [this]
      simp only [List.getD_cons_succ]
      rw [← hlen]; simp

theorem width_step {m : Nat} (h : (10 : Int) ≤ (m : Int)) : nDigits m = nDigits (m / 10) + 1 := nDigits_big (by omega)

set_option maxHeartbeats 400000 in
/-- zzWidth: the length of the decimal numeral. -/
theorem width_any (n : Int) (w : World) (h0 : -9223372036854775808 ≤ n) (h1 : n ≤ 9223372036854775807) :
    Calls Tryd.prog 11 #[.int .i64 n] w fun e w' => e = .returned (.int .i64 ((itoa n).length : Int)) ∧ w' = w := by
  have hln := itoa_length n
  have HL : Hid ((itoa n).length = nDigits n.natAbs + (if n < 0 then 1 else 0)) := hln
  have hA : n.natAbs ≤ 9223372036854775808 := by omega
  have HU : Hid (nDigits n.natAbs ≤ 20) := nDigits_le20 _ (by omega)
  clear hln
  by_cases hn : n < 0
  all_goals
    go_enter Tryd.func11, Tryd.ntmps11
    go_wp2_with (go_at_call 13; refine (mag_any n w h0 h1).mono ?_; rintro e w' ⟨rfl, rfl⟩)
    go_loop [3, 4] (fun x m => ∃ a q : Nat, x = .int .i64 q ∧ m = .int .u64 a ∧ 1 ≤ q ∧ a ≤ 9223372036854775808 ∧ Hid (q + nDigits a = nDigits n.natAbs + 1)) (fun _ m => (intOf m).toNat)
    case atStart => exact ⟨n.natAbs, 1, rfl, rfl, by omega, hA, by show _ = _; omega⟩
    case round =>
      obtain ⟨a, q, rfl, rfl, hq, ha, hr⟩ := hrel
      have hq20 : q ≤ 21 := by have := hr.out; have := HU.out; omega
      by_cases hlt : 10 ≤ (a : Int)
      · have hs := width_step hlt
        have HS : Hid (nDigits a = nDigits (a / 10) + 1) := hs
        clear hs
        go_wp2
        go_round
        case rel => exact ⟨a / 10, q + 1, by go_num, by go_num, by omega, by omega, by show _ = _; have := hr.out; have := HS.out; omega⟩
        case measure => simp [intOf]; omega
      · have hs := nDigits_small (u := a) (by omega)
        have HS : Hid (nDigits a = 1) := hs
        clear hs
        go_wp2
        go_ret
        exact ⟨ret_int (by rw [HL.out]; have := hr.out; have := HS.out; first | (rw [if_pos (by omega)]; omega) | (rw [if_neg (by omega)]; omega)), rfl⟩

end Go.Proofs.Qxb6625441aDoor
