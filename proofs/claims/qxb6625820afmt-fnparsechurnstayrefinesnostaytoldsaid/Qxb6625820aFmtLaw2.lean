import Derived.Test.Qxb6625820aFmtLaw1
/-! The walk of FnParseChurnStayRefinesNoStay. -/
namespace Go.Proofs.Qxb6625820aFmt
open Go.RowKit Go.Extern.Stop Go.Stop Go.Extern

set_option maxHeartbeats 400000 in
theorem law2_nil (st : Option Addr) (m : Int) (w : World) :
    Calls Tryf.prog 4 #[.pointer none, .pointer st, .int .i64 m] w fun e w' => e = .returned (.bool true) ∧ Below w.heap.size w w' := by
  go_enter Tryf.func4, Tryf.ntmps4
  go_wp2_with fail
  refine (parse_none none m w).mono ?_
  rintro e w1 ⟨x1, rfl, b1⟩
  go_wp2_with fail
  refine (parse_none st m w1).mono ?_
  rintro e w2 ⟨x2, rfl, b2⟩
  go_wp2
  go_ret
  exact ⟨rfl, b1.trans (b2.mono b1.size)⟩

set_option maxHeartbeats 2000000 in
/-- until is below 1. -/
theorem law2_low (F : Interp) (b o : Nat) (u m : Int) (st : Option Addr) (sv : Option Int) (w : World) (h : Came F w b o u st sv) (h1 : u < 1) :
    Calls Tryf.prog 4 #[.pointer (some ⟨b, o, none⟩), .pointer st, .int .i64 m] w fun e w' => e = .returned (.bool true) ∧ Below w.heap.size w w' := by
  have hcu := h.cu
  have H : Hid (Came F w b o u st sv) := h
  have H0 : Hid (Came F w b o u none none) := h.bare
  rcases h.stay with ⟨rfl, rfl⟩ | ⟨b2, o2, s, rfl, rfl, h5, h6⟩
  · clear h
    go_enter Tryf.func4, Tryf.ntmps4
    go_wp2_with fail
    refine (parse_no H0.out m (.inl h1)).mono ?_
    rintro e w1 ⟨x1, rfl, b1_⟩
    have H1 : Hid (Came F w1 b o u none none) := H.out.below b1_
    have hcu1 := H1.out.cu
    go_wp2_with fail
    refine (parse_no H1.out m (.inl h1)).mono ?_
    rintro e w2 ⟨x2, rfl, b2_⟩
    have H2 : Hid (Came F w2 b o u none none) := H1.out.below b2_
    have hcu2 := H2.out.cu
    have HB : Hid (Below w.heap.size w w2) := b1_.trans (b2_.mono b1_.size)
    go_wp2
    go_ret
    exact ⟨rfl, HB.out⟩
  · clear h h6
    go_enter Tryf.func4, Tryf.ntmps4
    go_wp2_with fail
    refine (parse_no H0.out m (.inl h1)).mono ?_
    rintro e w1 ⟨x1, rfl, b1_⟩
    have H1 : Hid (Came F w1 b o u (some ⟨b2, o2, none⟩) (some s)) := H.out.below b1_
    have hcu1 := H1.out.cu
    have h51 := (b1_.cell (p := ⟨b2, o2, none⟩) (World.block_lt_of_cell? w ⟨b2, o2, none⟩ h5)).trans h5
    go_wp2_with fail
    refine (parse_no H1.out m (.inl h1)).mono ?_
    rintro e w2 ⟨x2, rfl, b2_⟩
    have H2 : Hid (Came F w2 b o u (some ⟨b2, o2, none⟩) (some s)) := H1.out.below b2_
    have hcu2 := H2.out.cu
    have h52 := (b2_.cell (p := ⟨b2, o2, none⟩) (World.block_lt_of_cell? w1 ⟨b2, o2, none⟩ h51)).trans h51
    have HB : Hid (Below w.heap.size w w2) := b1_.trans (b2_.mono b1_.size)
    go_wp2
    go_ret
    exact ⟨rfl, HB.out⟩

set_option maxHeartbeats 2000000 in
/-- until is beyond max_steps. -/
theorem law2_high (F : Interp) (b o : Nat) (u m : Int) (st : Option Addr) (sv : Option Int) (w : World) (h : Came F w b o u st sv) (h1 : 1 ≤ u) (h2 : m < u) :
    Calls Tryf.prog 4 #[.pointer (some ⟨b, o, none⟩), .pointer st, .int .i64 m] w fun e w' => e = .returned (.bool true) ∧ Below w.heap.size w w' := by
  have hcu := h.cu
  have H : Hid (Came F w b o u st sv) := h
  have H0 : Hid (Came F w b o u none none) := h.bare
  rcases h.stay with ⟨rfl, rfl⟩ | ⟨b2, o2, s, rfl, rfl, h5, h6⟩
  · clear h
    go_enter Tryf.func4, Tryf.ntmps4
    go_wp2_with fail
    refine (parse_no H0.out m (.inr (.inl h2))).mono ?_
    rintro e w1 ⟨x1, rfl, b1_⟩
    have H1 : Hid (Came F w1 b o u none none) := H.out.below b1_
    have hcu1 := H1.out.cu
    go_wp2_with fail
    refine (parse_no H1.out m (.inr (.inl h2))).mono ?_
    rintro e w2 ⟨x2, rfl, b2_⟩
    have H2 : Hid (Came F w2 b o u none none) := H1.out.below b2_
    have hcu2 := H2.out.cu
    have HB : Hid (Below w.heap.size w w2) := b1_.trans (b2_.mono b1_.size)
    go_wp2
    go_ret
    exact ⟨rfl, HB.out⟩
  · clear h h6
    go_enter Tryf.func4, Tryf.ntmps4
    go_wp2_with fail
    refine (parse_no H0.out m (.inr (.inl h2))).mono ?_
    rintro e w1 ⟨x1, rfl, b1_⟩
    have H1 : Hid (Came F w1 b o u (some ⟨b2, o2, none⟩) (some s)) := H.out.below b1_
    have hcu1 := H1.out.cu
    have h51 := (b1_.cell (p := ⟨b2, o2, none⟩) (World.block_lt_of_cell? w ⟨b2, o2, none⟩ h5)).trans h5
    go_wp2_with fail
    refine (parse_no H1.out m (.inr (.inl h2))).mono ?_
    rintro e w2 ⟨x2, rfl, b2_⟩
    have H2 : Hid (Came F w2 b o u (some ⟨b2, o2, none⟩) (some s)) := H1.out.below b2_
    have hcu2 := H2.out.cu
    have h52 := (b2_.cell (p := ⟨b2, o2, none⟩) (World.block_lt_of_cell? w1 ⟨b2, o2, none⟩ h51)).trans h51
    have HB : Hid (Below w.heap.size w w2) := b1_.trans (b2_.mono b1_.size)
    go_wp2
    go_ret
    exact ⟨rfl, HB.out⟩

set_option maxHeartbeats 2000000 in
/-- The given stay is not let. -/
theorem law2_bad (F : Interp) (b o : Nat) (u m : Int) (st : Option Addr) (sv : Option Int) (w : World) (h : Came F w b o u st sv) (h1 : 1 ≤ u) (h2 : u ≤ m) (h3 : okS sv = false) :
    Calls Tryf.prog 4 #[.pointer (some ⟨b, o, none⟩), .pointer st, .int .i64 m] w fun e w' => e = .returned (.bool true) ∧ Below w.heap.size w w' := by
  have hcu := h.cu
  have H : Hid (Came F w b o u st sv) := h
  have H0 : Hid (Came F w b o u none none) := h.bare
  have HK : Hid (okS sv = false) := h3
  rcases h.stay with ⟨rfl, rfl⟩ | ⟨b2, o2, s, rfl, rfl, h5, h6⟩
  · simp [okS] at h3
  · have hs1 : s < 1 := by have := HK.out; simp [okS] at this; omega
    have hd1 : decide (1 ≤ s) = false := decide_eq_false (by omega)
    clear h h3 h6
    go_enter Tryf.func4, Tryf.ntmps4
    go_wp2_with fail
    refine (parse_yes H0.out m (by omega) (by omega) rfl).mono ?_
    rintro e w1 ⟨k1, rfl, i1, j1, c1, d1, b1_⟩
    simp only [Option.getD_none] at d1
    have H1 : Hid (Came F w1 b o u (some ⟨b2, o2, none⟩) (some s)) := H.out.below b1_
    have hcu1 := H1.out.cu
    have h51 := (b1_.cell (p := ⟨b2, o2, none⟩) (World.block_lt_of_cell? w ⟨b2, o2, none⟩ h5)).trans h5
    go_wp2_with fail
    refine (parse_no H1.out m (.inr (.inr HK.out))).mono ?_
    rintro e w2 ⟨x2, rfl, b2_⟩
    have H2 : Hid (Came F w2 b o u (some ⟨b2, o2, none⟩) (some s)) := H1.out.below b2_
    have hcu2 := H2.out.cu
    have h52 := (b2_.cell (p := ⟨b2, o2, none⟩) (World.block_lt_of_cell? w1 ⟨b2, o2, none⟩ h51)).trans h51
    have HB : Hid (Below w.heap.size w w2) := b1_.trans (b2_.mono b1_.size)
    have c12 := (b2_.cell (p := ⟨k1, 0, none⟩) j1).trans c1
    have d12 := (b2_.cell (p := ⟨k1, 1, none⟩) j1).trans d1
    clear c1 d1 b1_ b2_ i1 j1
    go_wp2_with fail
    go_quiet (fail)
    go_wp2
    go_ret
    exact ⟨rfl, below_drewN HB.out _⟩

set_option maxHeartbeats 2000000 in
/-- Both are accepted. -/
theorem law2_good (F : Interp) (b o : Nat) (u m : Int) (st : Option Addr) (sv : Option Int) (w : World) (h : Came F w b o u st sv) (h1 : 1 ≤ u) (h2 : u ≤ m) (h3 : okS sv = true) :
    Calls Tryf.prog 4 #[.pointer (some ⟨b, o, none⟩), .pointer st, .int .i64 m] w fun e w' => e = .returned (.bool true) ∧ Below w.heap.size w w' := by
  have hcu := h.cu
  have H : Hid (Came F w b o u st sv) := h
  have H0 : Hid (Came F w b o u none none) := h.bare
  have HK : Hid (okS sv = true) := h3
  rcases h.stay with ⟨rfl, rfl⟩ | ⟨b2, o2, s, rfl, rfl, h5, h6⟩
  · clear h h3
    go_enter Tryf.func4, Tryf.ntmps4
    go_wp2_with fail
    refine (parse_yes H0.out m (by omega) (by omega) rfl).mono ?_
    rintro e w1 ⟨k1, rfl, i1, j1, c1, d1, b1_⟩
    simp only [Option.getD_none] at d1
    have H1 : Hid (Came F w1 b o u none none) := H.out.below b1_
    have hcu1 := H1.out.cu
    go_wp2_with fail
    refine (parse_yes H1.out m (by omega) (by omega) HK.out).mono ?_
    rintro e w2 ⟨k2, rfl, i2, j2, c2, d2, b2_⟩
    simp only [Option.getD_none] at d2
    have H2 : Hid (Came F w2 b o u none none) := H1.out.below b2_
    have hcu2 := H2.out.cu
    have HB : Hid (Below w.heap.size w w2) := b1_.trans (b2_.mono b1_.size)
    have c12 := (b2_.cell (p := ⟨k1, 0, none⟩) j1).trans c1
    have d12 := (b2_.cell (p := ⟨k1, 1, none⟩) j1).trans d1
    clear c1 d1 b1_ b2_ i1 j1 i2 j2
    go_wp2_with fail
    go_quiet (fail)
    go_wp2_with fail
    go_quiet (fail)
    go_wp2
    go_ret
    exact ⟨rfl, below_drewN (below_drewN HB.out _) _⟩
  · have hs1 : 1 ≤ s := by have := HK.out; simp [okS] at this; omega
    clear h h3 h6
    go_enter Tryf.func4, Tryf.ntmps4
    go_wp2_with fail
    refine (parse_yes H0.out m (by omega) (by omega) rfl).mono ?_
    rintro e w1 ⟨k1, rfl, i1, j1, c1, d1, b1_⟩
    simp only [Option.getD_none] at d1
    have H1 : Hid (Came F w1 b o u (some ⟨b2, o2, none⟩) (some s)) := H.out.below b1_
    have hcu1 := H1.out.cu
    have h51 := (b1_.cell (p := ⟨b2, o2, none⟩) (World.block_lt_of_cell? w ⟨b2, o2, none⟩ h5)).trans h5
    go_wp2_with fail
    refine (parse_yes H1.out m (by omega) (by omega) HK.out).mono ?_
    rintro e w2 ⟨k2, rfl, i2, j2, c2, d2, b2_⟩
    simp only [Option.getD_some] at d2
    have H2 : Hid (Came F w2 b o u (some ⟨b2, o2, none⟩) (some s)) := H1.out.below b2_
    have hcu2 := H2.out.cu
    have h52 := (b2_.cell (p := ⟨b2, o2, none⟩) (World.block_lt_of_cell? w1 ⟨b2, o2, none⟩ h51)).trans h51
    have HB : Hid (Below w.heap.size w w2) := b1_.trans (b2_.mono b1_.size)
    have c12 := (b2_.cell (p := ⟨k1, 0, none⟩) j1).trans c1
    have d12 := (b2_.cell (p := ⟨k1, 1, none⟩) j1).trans d1
    clear c1 d1 b1_ b2_ i1 j1 i2 j2
    go_wp2_with fail
    go_quiet (fail)
    go_wp2_with fail
    go_quiet (fail)
    go_wp2
    go_ret
    exact ⟨rfl, below_drewN (below_drewN HB.out _) _⟩

/-- The law, until given. -/
theorem law2_some (F : Interp) (b o : Nat) (u m : Int) (st : Option Addr) (sv : Option Int) (w : World) (h : Came F w b o u st sv) :
    Calls Tryf.prog 4 #[.pointer (some ⟨b, o, none⟩), .pointer st, .int .i64 m] w fun e w' => e = .returned (.bool true) ∧ Below w.heap.size w w' := by
  by_cases h1 : u < 1
  · exact law2_low F b o u m st sv w h h1
  · by_cases h2 : m < u
    · exact law2_high F b o u m st sv w h (by omega) h2
    · cases h3 : okS sv with
      | false => exact law2_bad F b o u m st sv w h (by omega) (by omega) h3
      | true => exact law2_good F b o u m st sv w h (by omega) (by omega) h3

end Go.Proofs.Qxb6625820aFmt
