import Derived.Test.Qxb6625871aDoorMem
import Derived.BigRegion
/-! The walk of insert. -/
namespace Go.Proofs.Qxb6625871aDoor
open Go.RowKit Go.Sort

theorem Fd.passTo {w : World} {E b cb g cg : Nat} {l : List UInt8} {p : Nat} (h : Fd w E b cb g cg l p) (h4 : l.length < p + 4) : ∀ d, Fd w E b cb g cg l (p + d)
  | 0 => h
  | d + 1 => (Fd.passTo h h4 d).pass (by omega)

set_option maxHeartbeats 1000000 in
theorem insert_at (E b cb g cg : Nat) (l : List UInt8) (p to : Nat) (w : World) (hF : Fd w E b cb g cg l p) (hpt : p ≤ to) (hto : to ≤ l.length) (h4 : 4 ≤ l.length) :
    Calls Tryd.prog 17 #[.pointer (some ⟨E, 0, none⟩), .int .i64 (p : Int), .int .i64 (to : Int)] w fun e w' => e = .returned (.tuple #[]) ∧ Fd w' E b cb g cg l to ∧ Fr E g w w' := by
  have hFh : Hid (Fd w E b cb g cg l p) := hF
  have cs := hF.src
  have hsm := hF.small
  obtain ⟨n3, hn3⟩ : ∃ n3, l.length = n3 + 3 := ⟨l.length - 3, by omega⟩
  clear hF
  obtain ⟨m, hm⟩ : ∃ m : Nat, Hid (m = min to n3) := ⟨_, rfl⟩
  have em : min (to : Int) (n3 + 3 - 4 + 1) = (m : Int) := by have := hm.out; omega
  rw [hn3] at cs
  go_enter Tryd.func17, Tryd.ntmps17
  go_wp2
  clear em cs
  go_loopw [6] (fun kv wr => ∃ k : Nat, kv = .int .i64 (k : Int) ∧ p ≤ k ∧ k ≤ max p m ∧ Hid (Fd wr E b cb g cg l k) ∧ Hid (Fr E g w wr)) (fun kv _ => m - (intOf kv).toNat)
  case atStart => exact ⟨p, rfl, Nat.le_refl _, by omega, hFh, Fr.refl _ _ _⟩
  case round =>
    obtain ⟨k, rfl, hpk, hkm, hFk, hRk⟩ := hrel
    by_cases hlt : k < m
    · have hk4 : k + 4 ≤ l.length := by have := hm.out; omega
      obtain ⟨d, hd⟩ : ∃ d, l.length = k + d := ⟨l.length - k, by omega⟩
      obtain ⟨dc, rfl⟩ : ∃ dc, cb = k + dc := ⟨cb - k, by have := hFk.out.lb; omega⟩
      have cs := hFk.out.src
      have hlb := hFk.out.lb
      rw [hd] at cs hlb
      go_wp2_with fail
      refine (hash_at b k d dc l wr (by omega) hk4 hFk.out.text).mono ?_
      rintro e w1 ⟨rfl, hb1⟩
      have hF1 : Hid (Fd w1 E b (k + dc) g cg l k) := hFk.out.below hb1
      have hR1 : Hid (Fr E g w w1) := hRk.out.below hb1
      clear cs
      obtain ⟨H, hH⟩ : ∃ H, H = hsh l k := ⟨_, rfl⟩
      have hh : H < 8192 := by rw [hH]; exact hsh_lt l k
      obtain ⟨X, hX⟩ : ∃ X, X = last l k H := ⟨_, rfl⟩
      have c1 := hF1.out.head _ hh
      rw [← hX] at c1
      have c2 := hF1.out.prev
      obtain ⟨x, c3⟩ := hF1.out.row k (by omega)
      have f1 := hF1.out.fE (1 + H)
      have f2 := hF1.out.fg k
      have c1' : ∀ v, (w1.setCell ⟨g, k, none⟩ v).cell? ⟨E, 1 + H, none⟩ = some (.int .i32 X) := fun v => by
        rw [World.cell?_setCell_other _ _ _ _ (by intro e; injection e with e1; exact hF1.out.eg e1.symm)]; exact c1
      have c3' : ∀ v, (w1.setCell ⟨E, 1 + H, none⟩ v).cell? ⟨g, k, none⟩ = some (.int .i32 x) := fun v => by
        rw [World.cell?_setCell_other _ _ _ _ (by intro e; injection e with e1; exact hF1.out.eg e1)]; exact c3
      rw [hd] at c2
      rw [← hH]
      have hin : Hid (Fd ((w1.setCell ⟨g, k, none⟩ (.int .i32 X)).setCell ⟨E, 1 + H, none⟩ (.int .i32 (k : Int))) E b (k + dc) g cg l (k + 1)) := by
        rw [hX, hH]; exact hF1.out.insert hk4
      clear hH hX
      go_wp2_with fail
      go_region
      clear c1' c3' c1 c2 c3
      go_wp2
      go_roundw
      case rel => exact ⟨k + 1, by go_num, by omega, by omega, hin.out.drew, ((hR1.out.setG hF1.out.eg k _).setE _ (by omega) _).drew⟩
      case measure => simp [intOf]; omega
    · go_wp2
      go_end0
      refine ⟨rfl, ?_, hRk.out⟩
      have hmm := hm.out
      by_cases hk : k = to
      · subst hk; exact hFk.out
      · obtain ⟨d, rfl⟩ : ∃ d, to = k + d := ⟨to - k, by omega⟩
        exact hFk.out.passTo (by omega) d

end Go.Proofs.Qxb6625871aDoor
