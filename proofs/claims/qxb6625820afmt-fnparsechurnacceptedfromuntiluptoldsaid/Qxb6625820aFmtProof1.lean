import Derived.Test.Qxb6625820aFmtFrame
import Derived.Test.Qxb6625820aFmtLaw1
/-! FnParseChurnAcceptedFromUntilUp: the told card. -/
namespace Go.Proofs.Qxb6625820aFmt
open Go.ChangeShapes Go.WideShapes Go.ChangeAt Go.RowKit Go.Kit
open Go.Extern.Stop Go.Stop Go.Extern

set_option maxRecDepth 100000 in
theorem lifted1 (os : Os) (started : os.Started) (H : Type) (enc : TypeId × Value → H) :
    ReturnsInTold none {} Tryf.checked os 3 .any Input.okWide ((OpenSpec.ofChange Rows.fnParseChurnAcceptedFromUntilUpSpec).preRow enc Tryf.prog Tryf.f3 [] false []) (fun F => ((OpenSpec.ofChange Rows.fnParseChurnAcceptedFromUntilUpSpec).at F).post enc Tryf.prog Tryf.f3 false true false false) (aloneAtReturn Tryf.prog) nothingAlways := by
  refine returnsInTold_of_row (C := Tryf.checked) (s := OpenSpec.ofChange Rows.fnParseChurnAcceptedFromUntilUpSpec) (by kernel_rfl) ownK started (by kernel_rfl) Tryf.func3
    (OpenSpec.witness_stopped (enc := enc) (C := Tryf.checked) false ⟨#[], #[.pointer none, .pointer none, .int .i64 0], []⟩ 8 (by kernel_rfl) (by kernel_rfl) (by kernel_rfl) (by kernel_rfl)) ?_
  intro F W base args ds gs before _ hF hval0 hW _ _ _ _ _
  have hval : ∀ (j : Nat) t v, Tryf.f3.params[j]? = some t → args[j]? = some v → Value.okWide Tryf.prog W .any base t v := hval0
  have hW' := hW
  obtain ⟨p, q, hA0, hV, rfl, _, _⟩ := hW
  have hA : DataW.TrodAll enc Tryf.prog W 0 (fun _ => true) true Tryf.f3.params.toList args.toList ds p := hA0
  rw [Tryf.params3] at hA hval
  obtain ⟨v0, v1, v2, d0, d1, d2, p0, p1, p2, rfl, rfl, rfl, h0, h1, h2⟩ := trodAll_three hA
  obtain ⟨rfl, rfl⟩ := trodVars_none hV
  obtain ⟨m, rfl, rfl, rfl, wm⟩ := open_int Tryf.underlying3 (hval 2 3 v2 rfl rfl) h2
  have k0 := h0
  have k1 := h1
  have lt0 : ∀ x ∈ p0, x.block < W.heap.size := by obtain ⟨m, hm⟩ := k0; exact DataW.trod_lt m _ _ _ hm
  have lt1 : ∀ x ∈ p1, x.block < W.heap.size := by obtain ⟨m, hm⟩ := k1; exact DataW.trod_lt m _ _ _ hm
  clear hA0 hval0
  have fin : ∀ (e : Ending) (W' : World), e = .returned (.bool true) ∧ Below W.heap.size W W' → ∃ v, e = .returned v ∧ ((OpenSpec.ofChange Rows.fnParseChurnAcceptedFromUntilUpSpec).at F.told).post enc Tryf.prog Tryf.f3 false true false false W #[v0, v1, .int .i64 m] v W' := by
    rintro e W' ⟨rfl, bel⟩
    exact ⟨_, rfl, _, _, _, [], _, [], hW', trodAll_mk1 (shut_bool Tryf.underlying4 _), trodAll_mk3 (Below.trod laidOut' (by kernel_rfl) (of_decide_eq_true (by kernel_rfl)) k0 bel lt0) (Below.trod laidOut' (by kernel_rfl) (of_decide_eq_true (by kernel_rfl)) k1 bel lt1) (shut_int Tryf.underlying3 wm), rfl, bel.frame _, fun h => by cases h⟩
  obtain ⟨st, sv, hst⟩ : ∃ (st : Option Addr) (sv : Option Int), v1 = .pointer st ∧ ((st = none ∧ sv = none) ∨ ∃ b2 o2 s, st = some ⟨b2, o2, none⟩ ∧ sv = some s ∧ W.cell? ⟨b2, o2, none⟩ = some (.int .i64 s) ∧ b2 < W.heap.size) := by
    rcases open_ptr_int Tryf.underlying22 Tryf.underlying3 cells3 (hval 1 22 v1 rfl rfl) h1 with ⟨rfl, _, _⟩ | ⟨b2, o2, s, rfl, _, _, hcell, _⟩
    · exact ⟨none, none, rfl, .inl ⟨rfl, rfl⟩⟩
    · exact ⟨_, _, rfl, .inr ⟨b2, o2, s, rfl, rfl, hcell, World.block_lt_of_cell? W ⟨b2, o2, none⟩ hcell⟩⟩
  obtain ⟨rfl, hst⟩ := hst
  rcases open_ptr_int Tryf.underlying22 Tryf.underlying3 cells3 (hval 0 22 v0 rfl rfl) h0 with ⟨rfl, _, _⟩ | ⟨b, o, u, rfl, _, _, hcell, wu⟩
  · exact (law1_nil st m W).mono fun e W' he => fin e W' he
  · obtain ⟨b1, b2⟩ := bounds_i64 wu
    exact (law1_some F.told b o u m st sv W ⟨hF, hcell, World.block_lt_of_cell? W ⟨b, o, none⟩ hcell, hst⟩ b1 b2).mono fun e W' he => fin e W' he

/-- THE TOLD CARD. -/
theorem proved1 : Rows.FnParseChurnAcceptedFromUntilUpToldSaid :=
  Claim7.holds_of_told_any 3 Tryf.f3 "fmt.errorf" [] [] _ _ _ (by kernel_rfl) rfl rfl rfl laidOut (by kernel_rfl) rfl ⟨rfl, rfl, rfl, rfl, rfl, rfl, rfl⟩ rfl rfl (by kernel_rfl) (by kernel_rfl) Tryf.func3 (by kernel_rfl)
    (of_decide_eq_true (by kernel_rfl)) (by unfold Func.isWrapper; first | (rw [if_pos (by decide +kernel)]; kernel_rfl) | (rw [if_neg (by decide +kernel)]; exact ⟨rfl, rfl⟩)) stops.symm rfl stopKnobs.symm (by kernel_rfl)
    (by kernel_rfl) (by kernel_rfl) (by kernel_rfl) (by kernel_rfl) (by kernel_rfl) (by kernel_rfl) (by kernel_rfl) (by kernel_rfl) (by kernel_rfl) rfl (by kernel_rfl) rfl rfl
    rfl rfl
    rfl (by kernel_rfl) (by kernel_rfl) (by kernel_rfl) (by decide) (by kernel_rfl)
    (OpenClaim.moreEntering_of (by kernel_rfl) (by kernel_rfl) (by kernel_rfl) (by kernel_rfl) (by kernel_rfl) (by kernel_rfl) (by kernel_rfl) (by kernel_rfl) (by kernel_rfl) (by kernel_rfl))
    ⟨_, WideRow.started_initial, quiet _⟩
    (fun os started _ H enc _ => lifted1 os started H enc)

end Go.Proofs.Qxb6625820aFmt
