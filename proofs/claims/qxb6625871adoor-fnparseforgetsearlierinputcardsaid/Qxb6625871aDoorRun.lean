import Derived.Test.Qxb6625871aDoorParse
/-! A new encoder; an empty input; the steps handed out. -/
namespace Go.Proofs.Qxb6625871aDoor
open Go.RowKit Go.Sort

def isInt0 : Value → Bool
  | .int .i32 0 => true
  | _ => false
def isNil : Value → Bool
  | .slice none 0 0 => true
  | _ => false
/-- What a new encoder's cell i must be. -/
def okc (i : Nat) (x : Value) : Bool := cond (Nat.ble 1 i && Nat.ble i 8192) (isInt0 x) (cond (Nat.beq i 0 || (Nat.beq i 8193 || Nat.beq i 8212)) (isNil x) true)
def okl : List Value → Nat → Bool
  | [], i => Nat.beq i 8213
  | x :: r, i => okc i x && okl r (i + 1)
theorem t41_ok : (match Tryd.t41.zero with | some (.agg cs) => okl cs.toList 0 | _ => false) = true := by kernel_rfl

theorem int0_is {x : Value} (h : isInt0 x = true) : x = .int .i32 0 := by
  unfold isInt0 at h
  split at h
  · rfl
  · cases h
theorem nil_is {x : Value} (h : isNil x = true) : x = .slice none 0 0 := by
  unfold isNil at h
  split at h
  · rfl
  · cases h

theorem okl_spec : ∀ (l : List Value) (i : Nat), okl l i = true → i + l.length = 8213 ∧ ∀ j x, l[j]? = some x → okc (i + j) x = true
  | [], i, h => ⟨by unfold okl at h; simpa using Nat.eq_of_beq_eq_true h, fun j x hx => by simp at hx⟩
  | y :: r, i, h => by
    unfold okl at h
    rw [Bool.and_eq_true] at h
    obtain ⟨h1, h2⟩ := okl_spec r (i + 1) h.2
    refine ⟨by simp; omega, fun j x hx => ?_⟩
    match j, hx with
    | 0, hx => simp at hx; subst hx; exact h.1
    | j + 1, hx =>
      have := h2 j x (by simpa using hx)
      rwa [show i + 1 + j = i + (j + 1) by omega] at this

theorem zero41 : ∃ cs, (∀ w, (zeroValue 41).run Tryd.prog w = .ok (.agg cs) w) ∧ okl cs.toList 0 = true := by
  have h := t41_ok
  split at h
  · rename_i cs e
    exact ⟨cs, fun w => by simp [zeroValue, Tryd.typeInfo41, e], h⟩
  · cases h

theorem idle_new (w : World) (cs : Array Value) (hz : okl cs.toList 0 = true) (B : Nat) (hB : B ≤ w.heap.size) : Idle (w.alloc (.cells cs 41)) B w.heap.size := by
  obtain ⟨h1, h2⟩ := okl_spec _ _ hz
  have hlen : cs.size = 8213 := by simpa using h1
  have hc : ∀ j, j < 8213 → ∃ x, (w.alloc (.cells cs 41)).cell? ⟨w.heap.size, j, none⟩ = some x ∧ okc j x = true := by
    intro j hj
    have hj' : j < cs.toList.length := by simp; omega
    refine ⟨cs.toList[j], ?_, ?_⟩
    · simp
    · have := h2 j cs.toList[j] (List.getElem?_eq_getElem hj')
      simpa using this
  have hn : ∀ j, j = 0 ∨ j = 8193 ∨ j = 8212 → (w.alloc (.cells cs 41)).cell? ⟨w.heap.size, j, none⟩ = some (.slice none 0 0) := by
    intro j hj
    obtain ⟨x, hx, ho⟩ := hc j (by omega)
    rw [hx]
    rcases hj with rfl | rfl | rfl
    · rw [nil_is ho]
    · rw [nil_is ho]
    · rw [nil_is ho]
  refine ⟨⟨cs, heap_alloc_new w _, hlen⟩, ⟨_, _, _, hn 0 (.inl rfl)⟩, fun h hh => ?_, ⟨_, 0, [], hn 8193 (.inr (.inl rfl)), World.ownsRow_nil _ _ _ _⟩, ⟨_, 0, [], hn 8212 (.inr (.inr rfl)), World.ownsRow_nil _ _ _ _⟩, hB⟩
  obtain ⟨x, hx, ho⟩ := hc (1 + h) (by omega)
  have e1 : Nat.ble 1 (1 + h) = true := by rw [Nat.ble_eq]; omega
  have e2 : Nat.ble (1 + h) 8192 = true := by rw [Nat.ble_eq]; omega
  unfold okc at ho
  rw [e1, e2] at ho
  exact ⟨0, by rw [hx, int0_is ho]⟩

theorem best_none (E n cb i D : Nat) (iv Dv : Int) (q : Option Addr) (w : World) (hs : w.cell? ⟨E, 0, none⟩ = some (.slice q n cb)) (hi : n < i + 4) (hsm : i ≤ 4194304) (hiv : iv = (i : Int)) (hDv : Dv = (D : Int)) :
    Calls Tryd.prog 14 #[.pointer (some ⟨E, 0, none⟩), .int .i64 iv, .int .i64 Dv] w fun e w' => e = .returned (.agg #[.int .i32 0, .int .i32 0]) ∧ Below w.heap.size w w' := by
  subst hiv hDv
  exact best_out E n cb i D q w hs hi hsm

/-- Behind reset over nothing. -/
theorem idle_zero {w w1 w' : World} {B E : Nat} {q : Option Addr} {c : Nat} {pv X : Value} (hI : Idle w B E) (hB : B ≤ w.heap.size) (hR : Rst w w1 B E (.slice q 0 c) pv 0) (hX : w1.ownsRow B 47 2 X 0 [])
    (hb : Below (w1.setCell ⟨E, 8212, none⟩ X).heap.size (w1.setCell ⟨E, 8212, none⟩ X) w') : Idle w' B E ∧ (∃ sv, w'.cell? ⟨E, 8212, none⟩ = some sv ∧ w'.ownsRow B 47 2 sv 0 []) ∧ Below B w w' := by
  have hm := hR.mold.set ⟨E, 8212, none⟩ X
  obtain ⟨v, hv⟩ := hR.mold.cell (o := 8212) (by omega)
  have ne : ∀ x : Nat, x ≠ 8212 → (w1.setCell ⟨E, 8212, none⟩ X).cell? ⟨E, x, none⟩ = w1.cell? ⟨E, x, none⟩ := fun x hx => World.cell?_setCell_other _ _ _ _ (by intro e; injection e with _ e2; exact hx e2.symm)
  have c' : ∀ x : Nat, w'.cell? ⟨E, x, none⟩ = (w1.setCell ⟨E, 8212, none⟩ X).cell? ⟨E, x, none⟩ := fun x => hb.cell (p := ⟨E, x, none⟩) hm.lt
  have keep : ∀ (t : TypeId) (s n : Nat) (u : Value) (xs : List Value), t ≠ 41 → w1.ownsRow B t s u n xs → w'.ownsRow B t s u n xs := by
    intro t s n u xs ht ho
    refine own_keep ho (fun k hk => ?_)
    obtain ⟨_, cur, hc⟩ := own_type ho hk
    have hkE : k ≠ E := fun e => hR.mold.ne hc (Ne.symm ht) e.symm
    rw [hb.block k (by simpa [World.setCell] using (Array.getElem?_eq_some_iff.1 hc).1), Below.heap_setCell w1 ⟨E, 8212, none⟩ X k hkE]
  have hs : w'.cell? ⟨E, 8212, none⟩ = some X := (c' 8212).trans (World.cell?_setCell_same (u := v) _ _ _ hv)
  have hown := keep 47 2 0 X [] (by decide) hX
  have hB1 : B ≤ (w1.setCell ⟨E, 8212, none⟩ X).heap.size := by have := hR.below.size; simp [World.setCell]; omega
  refine ⟨⟨hm.keep (hb.block E hm.lt), ⟨q, 0, c, by rw [c', ne 0 (by omega)]; exact hR.src⟩, fun h hh => ⟨-1, by rw [c', ne _ (by omega)]; exact hR.head h hh⟩, ⟨pv, 0, _, by rw [c', ne _ (by omega)]; exact hR.prev, keep 21 1 0 pv _ (by decide) hR.row⟩, ⟨X, 0, [], hs, hown⟩, hI.eB⟩, ⟨X, hs, hown⟩, (hR.below.setCell (p := ⟨E, 8212, none⟩) hI.eB X).trans (hb.mono hB1)⟩

set_option maxHeartbeats 1000000 in
set_option maxRecDepth 100000 in
theorem parse_zero (w : World) (B E c : Nat) (q : Option Addr) (hI : Idle w B E) (hB : B ≤ w.heap.size) :
    Calls Tryd.prog 11 #[.pointer (some ⟨E, 0, none⟩), .slice q 0 c] w
      fun e w' => e = .returned (.tuple #[]) ∧ Idle w' B E ∧ (∃ sv, w'.cell? ⟨E, 8212, none⟩ = some sv ∧ w'.ownsRow B 47 2 sv 0 []) ∧ Below B w w' := by
  have hIh : Hid (Idle w B E) := hI
  clear hI
  go_enter Tryd.func11, Tryd.ntmps11
  go_wp2_with fail
  refine (reset_at w B E _ _ _ hIh.out hB (by omega)).mono ?_
  rintro e w1 ⟨rfl, pv, hR1'⟩
  have hR1 : Hid (Rst w w1 B E (.slice q 0 c) pv 0) := hR1'
  clear hR1'
  obtain ⟨sv, sn, ys, cs', hst'⟩ := hIh.out.steps
  have cs : w1.cell? ⟨E, 8212, none⟩ = some sv := by rw [hR1.out.far 8212 (by omega)]; exact cs'
  have hst : w1.ownsRow B 47 2 sv sn ys := own_keep hst' (fun k hk => by obtain ⟨_, cur, hc⟩ := own_type hst' hk; exact hR1.out.keep k cur hc)
  have fz := hR1.out.mold.frozen 8212
  clear cs' hst'
  rcases own_head hst with ⟨rfl, hown0⟩ | ⟨s0, cap, rfl, hnc, hown0⟩
  all_goals
    clear hst
    go_wp2_with fail
    refine (best_none E 0 c 0 8 _ _ q _ (by rw [World.cell?_setCell_other _ _ _ _ (by intro e; injection e with _ e2; cases e2)]; exact hR1.out.src) (by omega) (by omega) rfl rfl).mono ?_
    rintro e w3 ⟨rfl, hb3⟩
    go_wp2
    go_loopw [5] (fun iv wr => iv = .int .i64 0 ∧ wr = w3.alloc (.cells #[.int .i32 0, .int .i32 0] 47)) (fun _ _ => 0)
    case atStart => exact ⟨rfl, rfl⟩
    case round =>
      obtain ⟨rfl, rfl⟩ := hrel
      go_wp2
      go_end0
      exact ⟨rfl, idle_zero hIh.out hB hR1.out hown0 (hb3.alloc hb3.size _)⟩

end Go.Proofs.Qxb6625871aDoor
