import Derived.Test.Qxb6625820aFmtParse
/-! The walk of FnParseChurnAcceptedFromUntilUp. -/
namespace Go.Proofs.Qxb6625820aFmt
open Go.RowKit Go.Extern.Stop Go.Stop Go.Extern

/-- What came in: fmt's answers, the cell of until, stay (nil, or a cell). -/
structure Came (F : Interp) (w : World) (b o : Nat) (u : Int) (st : Option Addr) (sv : Option Int) : Prop where
  ans : F.answers w.tape
  cu : w.cell? ⟨b, o, none⟩ = some (.int .i64 u)
  bu : b < w.heap.size
  stay : (st = none ∧ sv = none) ∨ ∃ b2 o2 s, st = some ⟨b2, o2, none⟩ ∧ sv = some s ∧ w.cell? ⟨b2, o2, none⟩ = some (.int .i64 s) ∧ b2 < w.heap.size

theorem Came.below {F : Interp} {w w' : World} {b o : Nat} {u : Int} {st : Option Addr} {sv : Option Int} (h : Came F w b o u st sv) (hb : Below w.heap.size w w') : Came F w' b o u st sv := by
  refine ⟨by rw [hb.tape]; exact h.ans, (hb.cell (p := ⟨b, o, none⟩) h.bu).trans h.cu, Nat.lt_of_lt_of_le h.bu hb.size, ?_⟩
  rcases h.stay with h | ⟨b2, o2, s, h1, h2, h3, h4⟩
  · exact .inl h
  · exact .inr ⟨b2, o2, s, h1, h2, (hb.cell (p := ⟨b2, o2, none⟩) h4).trans h3, Nat.lt_of_lt_of_le h4 hb.size⟩

/-- Is the given stay let? -/
def okS : Option Int → Bool
  | none => true
  | some s => decide (1 ≤ s)

theorem parse_yes {F : Interp} {w : World} {b o : Nat} {u : Int} {st : Option Addr} {sv : Option Int} (h : Came F w b o u st sv) (m : Int) (h1 : ¬ u < 1) (h2 : ¬ m < u) (h3 : okS sv = true) :
    Calls Tryf.prog 5 #[.pointer (some ⟨b, o, none⟩), .pointer st, .int .i64 m] w (Accepted u (sv.getD 0) w) := by
  rcases h.stay with ⟨rfl, rfl⟩ | ⟨b2, o2, s, rfl, rfl, h5, h6⟩
  · exact parse_plain b o u m w h.cu h.bu h1 h2
  · exact parse_full b o u b2 o2 s m w h.cu h.bu h5 h6 h1 h2 (by simp [okS] at h3; omega)

theorem parse_no {F : Interp} {w : World} {b o : Nat} {u : Int} {st : Option Addr} {sv : Option Int} (h : Came F w b o u st sv) (m : Int) (h1 : u < 1 ∨ m < u ∨ okS sv = false) :
    Calls Tryf.prog 5 #[.pointer (some ⟨b, o, none⟩), .pointer st, .int .i64 m] w (Refused w) := by
  by_cases g1 : u < 1
  · exact parse_low F b o u st m w h.ans h.cu h.bu g1
  · by_cases g2 : m < u
    · exact parse_high F b o u st m w h.ans h.cu h.bu g1 g2
    · have h3 : okS sv = false := by rcases h1 with h1 | h1 | h1; omega; omega; exact h1
      rcases h.stay with ⟨rfl, rfl⟩ | ⟨b2, o2, s, rfl, rfl, h5, h6⟩
      · simp [okS] at h3
      · exact parse_brief F b o u b2 o2 s m w h.ans h.cu h.bu h5 h6 g1 g2 (by simp [okS] at h3; omega)

/-- With no stay, a pointer by itself. -/
theorem Came.bare {F : Interp} {w : World} {b o : Nat} {u : Int} {st : Option Addr} {sv : Option Int} (h : Came F w b o u st sv) : Came F w b o u none none := ⟨h.ans, h.cu, h.bu, .inl ⟨rfl, rfl⟩⟩

set_option maxHeartbeats 400000 in
theorem law1_nil (st : Option Addr) (m : Int) (w : World) :
    Calls Tryf.prog 3 #[.pointer none, .pointer st, .int .i64 m] w fun e w' => e = .returned (.bool true) ∧ Below w.heap.size w w' := by
  go_enter Tryf.func3, Tryf.ntmps3
  go_wp2_with fail
  refine (parse_none st m w).mono ?_
  rintro e w1 ⟨x1, rfl, b1⟩
  go_wp2_with fail
  refine (parse_none none m w1).mono ?_
  rintro e w2 ⟨x2, rfl, b2⟩
  go_wp2
  go_ret
  exact ⟨rfl, b1.trans (b2.mono b1.size)⟩

set_option maxHeartbeats 2000000 in
/-- Accepted at m. -/
theorem law1_A (F : Interp) (b o : Nat) (u m : Int) (st : Option Addr) (sv : Option Int) (w : World) (h : Came F w b o u st sv) (h1 : 1 ≤ u) (h1m : u ≤ 9223372036854775807) (h2 : u ≤ m) (h3 : okS sv = true) :
    Calls Tryf.prog 3 #[.pointer (some ⟨b, o, none⟩), .pointer st, .int .i64 m] w fun e w' => e = .returned (.bool true) ∧ Below w.heap.size w w' := by
  have hcu := h.cu
  have H : Hid (Came F w b o u st sv) := h
  have HK : Hid (okS sv = true) := h3
  rcases h.stay with ⟨rfl, rfl⟩ | ⟨b2, o2, s, rfl, rfl, h5, h6⟩
  · clear h h3
    go_enter Tryf.func3, Tryf.ntmps3
    go_wp2_with fail
    refine (parse_yes H.out m (by omega) (by omega) HK.out).mono ?_
    rintro e w1 ⟨k1, rfl, i1, j1, c1, d1, b1_⟩
    have H1 : Hid (Came F w1 b o u none none) := H.out.below b1_
    have hcu1 := H1.out.cu
    go_wp2_with fail
    refine (parse_yes H1.out u (by omega) (by omega) HK.out).mono ?_
    rintro e w2 ⟨k2, rfl, i2, j2, c2, d2, b2_⟩
    have H2 : Hid (Came F w2 b o u none none) := H1.out.below b2_
    have hcu2 := H2.out.cu
    have c12 := (b2_.cell (p := ⟨k1, 0, none⟩) j1).trans c1
    have d12 := (b2_.cell (p := ⟨k1, 1, none⟩) j1).trans d1
    go_wp2_with fail
    refine (parse_no H2.out (u - 1) (.inr (.inl (by omega)))).mono ?_
    rintro e w3 ⟨x3, rfl, b3_⟩
    have e1 := (b3_.cell (p := ⟨k1, 0, none⟩) (Nat.lt_of_lt_of_le j1 b2_.size)).trans c12
    have e2 := (b3_.cell (p := ⟨k1, 1, none⟩) (Nat.lt_of_lt_of_le j1 b2_.size)).trans d12
    have e3 := (b3_.cell (p := ⟨k2, 0, none⟩) j2).trans c2
    have e4 := (b3_.cell (p := ⟨k2, 1, none⟩) j2).trans d2
    have HB : Hid (Below w.heap.size w w3) := b1_.trans ((b2_.mono b1_.size).trans (b3_.mono (Nat.le_trans b1_.size b2_.size)))
    clear c1 c2 d1 d2 c12 d12 b1_ b2_ b3_ i1 i2 j1 j2
    go_wp2_with fail
    go_quiet (fail)
    go_wp2
    go_ret
    exact ⟨rfl, below_drewN HB.out _⟩
  · have hs1 : 1 ≤ s := by have := HK.out; simp [okS] at this; omega
    clear h h3 h6
    go_enter Tryf.func3, Tryf.ntmps3
    go_wp2_with fail
    refine (parse_yes H.out m (by omega) (by omega) HK.out).mono ?_
    rintro e w1 ⟨k1, rfl, i1, j1, c1, d1, b1_⟩
    have H1 : Hid (Came F w1 b o u (some ⟨b2, o2, none⟩) (some s)) := H.out.below b1_
    have hcu1 := H1.out.cu
    have h51 := (b1_.cell (p := ⟨b2, o2, none⟩) (World.block_lt_of_cell? w ⟨b2, o2, none⟩ h5)).trans h5
    go_wp2_with fail
    refine (parse_yes H1.out u (by omega) (by omega) HK.out).mono ?_
    rintro e w2 ⟨k2, rfl, i2, j2, c2, d2, b2_⟩
    have H2 : Hid (Came F w2 b o u (some ⟨b2, o2, none⟩) (some s)) := H1.out.below b2_
    have hcu2 := H2.out.cu
    have c12 := (b2_.cell (p := ⟨k1, 0, none⟩) j1).trans c1
    have d12 := (b2_.cell (p := ⟨k1, 1, none⟩) j1).trans d1
    go_wp2_with fail
    refine (parse_no H2.out (u - 1) (.inr (.inl (by omega)))).mono ?_
    rintro e w3 ⟨x3, rfl, b3_⟩
    have e1 := (b3_.cell (p := ⟨k1, 0, none⟩) (Nat.lt_of_lt_of_le j1 b2_.size)).trans c12
    have e2 := (b3_.cell (p := ⟨k1, 1, none⟩) (Nat.lt_of_lt_of_le j1 b2_.size)).trans d12
    have e3 := (b3_.cell (p := ⟨k2, 0, none⟩) j2).trans c2
    have e4 := (b3_.cell (p := ⟨k2, 1, none⟩) j2).trans d2
    have HB : Hid (Below w.heap.size w w3) := b1_.trans ((b2_.mono b1_.size).trans (b3_.mono (Nat.le_trans b1_.size b2_.size)))
    clear c1 c2 d1 d2 c12 d12 b1_ b2_ b3_ i1 i2 j1 j2
    go_wp2_with fail
    go_quiet (fail)
    go_wp2
    go_ret
    exact ⟨rfl, below_drewN HB.out _⟩

set_option maxHeartbeats 2000000 in
/-- until is beyond m. -/
theorem law1_B (F : Interp) (b o : Nat) (u m : Int) (st : Option Addr) (sv : Option Int) (w : World) (h : Came F w b o u st sv) (h1 : 1 ≤ u) (h1m : u ≤ 9223372036854775807) (h2 : m < u) (h3 : okS sv = true) :
    Calls Tryf.prog 3 #[.pointer (some ⟨b, o, none⟩), .pointer st, .int .i64 m] w fun e w' => e = .returned (.bool true) ∧ Below w.heap.size w w' := by
  have hcu := h.cu
  have H : Hid (Came F w b o u st sv) := h
  have HK : Hid (okS sv = true) := h3
  rcases h.stay with ⟨rfl, rfl⟩ | ⟨b2, o2, s, rfl, rfl, h5, h6⟩
  · clear h h3
    go_enter Tryf.func3, Tryf.ntmps3
    go_wp2_with fail
    refine (parse_no H.out m (.inr (.inl h2))).mono ?_
    rintro e w1 ⟨x1, rfl, b1_⟩
    have H1 : Hid (Came F w1 b o u none none) := H.out.below b1_
    have hcu1 := H1.out.cu
    go_wp2_with fail
    refine (parse_yes H1.out u (by omega) (by omega) HK.out).mono ?_
    rintro e w2 ⟨k2, rfl, i2, j2, c2, d2, b2_⟩
    have H2 : Hid (Came F w2 b o u none none) := H1.out.below b2_
    have hcu2 := H2.out.cu
    go_wp2_with fail
    refine (parse_no H2.out (u - 1) (.inr (.inl (by omega)))).mono ?_
    rintro e w3 ⟨x3, rfl, b3_⟩
    go_wp2
    go_ret
    exact ⟨rfl, b1_.trans ((b2_.mono b1_.size).trans (b3_.mono (Nat.le_trans b1_.size b2_.size)))⟩
  · have hs1 : 1 ≤ s := by have := HK.out; simp [okS] at this; omega
    clear h h3 h6
    go_enter Tryf.func3, Tryf.ntmps3
    go_wp2_with fail
    refine (parse_no H.out m (.inr (.inl h2))).mono ?_
    rintro e w1 ⟨x1, rfl, b1_⟩
    have H1 : Hid (Came F w1 b o u (some ⟨b2, o2, none⟩) (some s)) := H.out.below b1_
    have hcu1 := H1.out.cu
    have h51 := (b1_.cell (p := ⟨b2, o2, none⟩) (World.block_lt_of_cell? w ⟨b2, o2, none⟩ h5)).trans h5
    go_wp2_with fail
    refine (parse_yes H1.out u (by omega) (by omega) HK.out).mono ?_
    rintro e w2 ⟨k2, rfl, i2, j2, c2, d2, b2_⟩
    have H2 : Hid (Came F w2 b o u (some ⟨b2, o2, none⟩) (some s)) := H1.out.below b2_
    have hcu2 := H2.out.cu
    go_wp2_with fail
    refine (parse_no H2.out (u - 1) (.inr (.inl (by omega)))).mono ?_
    rintro e w3 ⟨x3, rfl, b3_⟩
    go_wp2
    go_ret
    exact ⟨rfl, b1_.trans ((b2_.mono b1_.size).trans (b3_.mono (Nat.le_trans b1_.size b2_.size)))⟩

set_option maxHeartbeats 2000000 in
/-- The given stay is not let. -/
theorem law1_C (F : Interp) (b o : Nat) (u m : Int) (st : Option Addr) (sv : Option Int) (w : World) (h : Came F w b o u st sv) (h1 : 1 ≤ u) (h1m : u ≤ 9223372036854775807) (h3 : okS sv = false) :
    Calls Tryf.prog 3 #[.pointer (some ⟨b, o, none⟩), .pointer st, .int .i64 m] w fun e w' => e = .returned (.bool true) ∧ Below w.heap.size w w' := by
  have hcu := h.cu
  have H : Hid (Came F w b o u st sv) := h
  have HK : Hid (okS sv = false) := h3
  rcases h.stay with ⟨rfl, rfl⟩ | ⟨b2, o2, s, rfl, rfl, h5, h6⟩
  · simp [okS] at h3
  · have hs1 : s < 1 := by have := HK.out; simp [okS] at this; omega
    clear h h3 h6
    go_enter Tryf.func3, Tryf.ntmps3
    go_wp2_with fail
    refine (parse_no H.out m (.inr (.inr HK.out))).mono ?_
    rintro e w1 ⟨x1, rfl, b1_⟩
    have H1 : Hid (Came F w1 b o u (some ⟨b2, o2, none⟩) (some s)) := H.out.below b1_
    have hcu1 := H1.out.cu
    have h51 := (b1_.cell (p := ⟨b2, o2, none⟩) (World.block_lt_of_cell? w ⟨b2, o2, none⟩ h5)).trans h5
    go_wp2_with fail
    refine (parse_no H1.out u (.inr (.inr HK.out))).mono ?_
    rintro e w2 ⟨x2, rfl, b2_⟩
    have H2 : Hid (Came F w2 b o u (some ⟨b2, o2, none⟩) (some s)) := H1.out.below b2_
    have hcu2 := H2.out.cu
    go_wp2_with fail
    refine (parse_no H2.out (u - 1) (.inr (.inr HK.out))).mono ?_
    rintro e w3 ⟨x3, rfl, b3_⟩
    go_wp2
    go_ret
    exact ⟨rfl, b1_.trans ((b2_.mono b1_.size).trans (b3_.mono (Nat.le_trans b1_.size b2_.size)))⟩

set_option maxHeartbeats 2000000 in
/-- until is below 1. -/
theorem law1_D (F : Interp) (b o : Nat) (u m : Int) (st : Option Addr) (sv : Option Int) (w : World) (h : Came F w b o u st sv) (h1 : u < 1) (h1m : -9223372036854775807 ≤ u) :
    Calls Tryf.prog 3 #[.pointer (some ⟨b, o, none⟩), .pointer st, .int .i64 m] w fun e w' => e = .returned (.bool true) ∧ Below w.heap.size w w' := by
  have hcu := h.cu
  have H : Hid (Came F w b o u st sv) := h
  rcases h.stay with ⟨rfl, rfl⟩ | ⟨b2, o2, s, rfl, rfl, h5, h6⟩
  · clear h
    go_enter Tryf.func3, Tryf.ntmps3
    go_wp2_with fail
    refine (parse_no H.out m (.inl h1)).mono ?_
    rintro e w1 ⟨x1, rfl, b1_⟩
    have H1 : Hid (Came F w1 b o u none none) := H.out.below b1_
    have hcu1 := H1.out.cu
    go_wp2_with fail
    refine (parse_no H1.out u (.inl h1)).mono ?_
    rintro e w2 ⟨x2, rfl, b2_⟩
    have H2 : Hid (Came F w2 b o u none none) := H1.out.below b2_
    have hcu2 := H2.out.cu
    go_wp2_with fail
    refine (parse_no H2.out (u - 1) (.inl h1)).mono ?_
    rintro e w3 ⟨x3, rfl, b3_⟩
    go_wp2
    go_ret
    exact ⟨rfl, b1_.trans ((b2_.mono b1_.size).trans (b3_.mono (Nat.le_trans b1_.size b2_.size)))⟩
  · clear h h6
    go_enter Tryf.func3, Tryf.ntmps3
    go_wp2_with fail
    refine (parse_no H.out m (.inl h1)).mono ?_
    rintro e w1 ⟨x1, rfl, b1_⟩
    have H1 : Hid (Came F w1 b o u (some ⟨b2, o2, none⟩) (some s)) := H.out.below b1_
    have hcu1 := H1.out.cu
    have h51 := (b1_.cell (p := ⟨b2, o2, none⟩) (World.block_lt_of_cell? w ⟨b2, o2, none⟩ h5)).trans h5
    go_wp2_with fail
    refine (parse_no H1.out u (.inl h1)).mono ?_
    rintro e w2 ⟨x2, rfl, b2_⟩
    have H2 : Hid (Came F w2 b o u (some ⟨b2, o2, none⟩) (some s)) := H1.out.below b2_
    have hcu2 := H2.out.cu
    go_wp2_with fail
    refine (parse_no H2.out (u - 1) (.inl h1)).mono ?_
    rintro e w3 ⟨x3, rfl, b3_⟩
    go_wp2
    go_ret
    exact ⟨rfl, b1_.trans ((b2_.mono b1_.size).trans (b3_.mono (Nat.le_trans b1_.size b2_.size)))⟩

set_option maxHeartbeats 2000000 in
/-- until is the least int: until - 1 wraps. -/
theorem law1_E (F : Interp) (b o : Nat) (u m : Int) (st : Option Addr) (sv : Option Int) (w : World) (h : Came F w b o u st sv) (h1 : u < 1) (hw : ¬ wrap64 (u - 1) < u) :
    Calls Tryf.prog 3 #[.pointer (some ⟨b, o, none⟩), .pointer st, .int .i64 m] w fun e w' => e = .returned (.bool true) ∧ Below w.heap.size w w' := by
  have hcu := h.cu
  have H : Hid (Came F w b o u st sv) := h
  rcases h.stay with ⟨rfl, rfl⟩ | ⟨b2, o2, s, rfl, rfl, h5, h6⟩
  · clear h
    go_enter Tryf.func3, Tryf.ntmps3
    go_wp2_with fail
    refine (parse_no H.out m (.inl h1)).mono ?_
    rintro e w1 ⟨x1, rfl, b1_⟩
    have H1 : Hid (Came F w1 b o u none none) := H.out.below b1_
    have hcu1 := H1.out.cu
    go_wp2_with fail
    refine (parse_no H1.out u (.inl h1)).mono ?_
    rintro e w2 ⟨x2, rfl, b2_⟩
    have H2 : Hid (Came F w2 b o u none none) := H1.out.below b2_
    have hcu2 := H2.out.cu
    go_wp2
    go_ret
    exact ⟨rfl, b1_.trans (b2_.mono b1_.size)⟩
  · clear h h6
    go_enter Tryf.func3, Tryf.ntmps3
    go_wp2_with fail
    refine (parse_no H.out m (.inl h1)).mono ?_
    rintro e w1 ⟨x1, rfl, b1_⟩
    have H1 : Hid (Came F w1 b o u (some ⟨b2, o2, none⟩) (some s)) := H.out.below b1_
    have hcu1 := H1.out.cu
    have h51 := (b1_.cell (p := ⟨b2, o2, none⟩) (World.block_lt_of_cell? w ⟨b2, o2, none⟩ h5)).trans h5
    go_wp2_with fail
    refine (parse_no H1.out u (.inl h1)).mono ?_
    rintro e w2 ⟨x2, rfl, b2_⟩
    have H2 : Hid (Came F w2 b o u (some ⟨b2, o2, none⟩) (some s)) := H1.out.below b2_
    have hcu2 := H2.out.cu
    go_wp2
    go_ret
    exact ⟨rfl, b1_.trans (b2_.mono b1_.size)⟩

/-- The law, until given. -/
theorem law1_some (F : Interp) (b o : Nat) (u m : Int) (st : Option Addr) (sv : Option Int) (w : World) (h : Came F w b o u st sv) (hlo : -9223372036854775808 ≤ u) (hhi : u ≤ 9223372036854775807) :
    Calls Tryf.prog 3 #[.pointer (some ⟨b, o, none⟩), .pointer st, .int .i64 m] w fun e w' => e = .returned (.bool true) ∧ Below w.heap.size w w' := by
  by_cases h1 : u < 1
  · by_cases h2 : -9223372036854775807 ≤ u
    · exact law1_D F b o u m st sv w h h1 h2
    · exact law1_E F b o u m st sv w h h1 (by unfold wrap64; omega)
  · cases h3 : okS sv with
    | false => exact law1_C F b o u m st sv w h (by omega) hhi h3
    | true =>
      by_cases h4 : u ≤ m
      · exact law1_A F b o u m st sv w h (by omega) hhi h4 h3
      · exact law1_B F b o u m st sv w h (by omega) hhi (by omega) h3

end Go.Proofs.Qxb6625820aFmt
