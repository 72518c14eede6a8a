import Derived.Test.Qxb6625871aDoorMatch
/-! The finder in memory: which cells hold what; what a store of the finder's keeps. -/
namespace Go.Proofs.Qxb6625871aDoor
open Go.RowKit Go.Sort

theorem shape_set {w : World} {g c : Nat} {t : TypeId} (h : ∃ cur, w.heap[g]? = some (.cells cur t (0, 0)) ∧ cur.size = c) (a : Addr) (u : Value) :
    ∃ cur, (w.setCell a u).heap[g]? = some (.cells cur t (0, 0)) ∧ cur.size = c := by
  obtain ⟨cur, h1, h2⟩ := h
  by_cases e : g = a.block
  · subst e
    simp only [World.setCell, Array.getElem?_modify, if_pos, h1, Option.map_some]
    exact ⟨_, rfl, by split <;> simp [h2]⟩
  · exact ⟨cur, by rw [Below.heap_setCell w a u g e]; exact h1, h2⟩

/-- Nothing outside blocks E and g has turned, nor the encoder's other fields. -/
structure Fr (E g : Nat) (w w' : World) : Prop where
  os : w'.os = w.os
  tape : w'.tape = w.tape
  output : w'.output = w.output
  size : w.heap.size ≤ w'.heap.size
  block : ∀ k, k < w.heap.size → k ≠ E → k ≠ g → w'.heap[k]? = w.heap[k]?
  far : ∀ o, 8194 ≤ o → E < w.heap.size → w'.cell? ⟨E, o, none⟩ = w.cell? ⟨E, o, none⟩
  mold : ∀ t c, (∃ cur, w.heap[E]? = some (.cells cur t (0, 0)) ∧ cur.size = c) → ∃ cur, w'.heap[E]? = some (.cells cur t (0, 0)) ∧ cur.size = c

theorem Fr.refl (E g : Nat) (w : World) : Fr E g w w := ⟨rfl, rfl, rfl, Nat.le_refl _, fun _ _ _ _ => rfl, fun _ _ _ => rfl, fun _ _ h => h⟩
theorem Fr.trans {E g : Nat} {a b c : World} (h : Fr E g a b) (k : Fr E g b c) : Fr E g a c :=
  ⟨k.os.trans h.os, k.tape.trans h.tape, k.output.trans h.output, Nat.le_trans h.size k.size, fun i hi h1 h2 => (k.block i (Nat.lt_of_lt_of_le hi h.size) h1 h2).trans (h.block i hi h1 h2), fun o ho hE => (k.far o ho (Nat.lt_of_lt_of_le hE h.size)).trans (h.far o ho hE), fun t c hc => k.mold t c (h.mold t c hc)⟩
theorem Fr.of_below {E g : Nat} {a b : World} (h : Below a.heap.size a b) : Fr E g a b :=
  ⟨h.os, h.tape, h.output, h.size, fun k hk _ _ => h.block k hk, fun o _ hE => h.cell (p := ⟨E, o, none⟩) hE, fun t c hc => by
    obtain ⟨cur, h1, h2⟩ := hc
    exact ⟨cur, (h.block E (Array.getElem?_eq_some_iff.1 h1).1).trans h1, h2⟩⟩
theorem Fr.drewN {E g : Nat} {a b : World} (h : Fr E g a b) (n : Nat) : Fr E g a (b.drewN n) := ⟨h.os, h.tape, h.output, h.size, h.block, h.far, h.mold⟩
theorem Fr.drew {E g : Nat} {a b : World} (h : Fr E g a b) : Fr E g a b.drew := ⟨h.os, h.tape, h.output, h.size, h.block, h.far, h.mold⟩
theorem Fr.alloc {E g : Nat} {a b : World} (h : Fr E g a b) (o : Obj) : Fr E g a (b.alloc o) :=
  h.trans (Fr.of_below ((Below.refl _ _).alloc (Nat.le_refl _) o))
theorem Fr.below {E g : Nat} {a b c : World} (h : Fr E g a b) (k : Below b.heap.size b c) : Fr E g a c := h.trans (Fr.of_below k)
/-- A store into a new block. -/
theorem Fr.setNew {E g : Nat} {a b : World} (h : Fr E g a b) {p : Addr} (hp : a.heap.size ≤ p.block) (u : Value) : Fr E g a (b.setCell p u) :=
  ⟨h.os, h.tape, h.output, by simpa [World.setCell] using h.size, fun k hk h1 h2 => by rw [Below.heap_setCell b p u k (by omega)]; exact h.block k hk h1 h2,
    fun o ho hE => by rw [World.cell?_setCell_other b p ⟨E, o, none⟩ u (by intro e; rw [e] at hp; simp at hp; omega)]; exact h.far o ho hE, fun t c hc => shape_set (h.mold t c hc) _ _⟩
/-- A store into g. -/
theorem Fr.setG {E g : Nat} {a b : World} (h : Fr E g a b) (hne : E ≠ g) (i : Nat) (u : Value) : Fr E g a (b.setCell ⟨g, i, none⟩ u) :=
  ⟨h.os, h.tape, h.output, by simpa [World.setCell] using h.size, fun k hk h1 h2 => by rw [Below.heap_setCell b ⟨g, i, none⟩ u k h2]; exact h.block k hk h1 h2,
    fun o ho hE => by rw [World.cell?_setCell_other b ⟨g, i, none⟩ ⟨E, o, none⟩ u (by intro e; injection e with e1; exact hne e1.symm)]; exact h.far o ho hE, fun t c hc => shape_set (h.mold t c hc) _ _⟩
/-- A store into the finder. -/
theorem Fr.setE {E g : Nat} {a b : World} (h : Fr E g a b) (i : Nat) (hi : i < 8194) (u : Value) : Fr E g a (b.setCell ⟨E, i, none⟩ u) :=
  ⟨h.os, h.tape, h.output, by simpa [World.setCell] using h.size, fun k hk h1 h2 => by rw [Below.heap_setCell b ⟨E, i, none⟩ u k h1]; exact h.block k hk h1 h2,
    fun o ho hE => by rw [World.cell?_setCell_other b ⟨E, i, none⟩ ⟨E, o, none⟩ u (by intro e; injection e with e1 e2; omega)]; exact h.far o ho hE, fun t c hc => shape_set (h.mold t c hc) _ _⟩

/-- The finder at block E over the bytes l in block b, its prev row in block g, every place ahead of p inserted. -/
structure Fd (w : World) (E b cb g cg : Nat) (l : List UInt8) (p : Nat) : Prop where
  src : w.cell? ⟨E, 0, none⟩ = some (.slice (some ⟨b, 0, none⟩) l.length cb)
  head : ∀ h, h < 8192 → w.cell? ⟨E, 1 + h, none⟩ = some (.int .i32 (last l p h))
  prev : w.cell? ⟨E, 8193, none⟩ = some (.slice (some ⟨g, 0, none⟩) l.length cg)
  shape : ∃ cur, w.heap[g]? = some (.cells cur 21 (0, 0)) ∧ cur.size = cg
  row : ∀ j, j < l.length → ∃ x, w.cell? ⟨g, j, none⟩ = some (.int .i32 x)
  chain : ∀ j, j < p → j + 4 ≤ l.length → w.cell? ⟨g, j, none⟩ = some (.int .i32 (nx l j))
  fE : ∀ o, w.frozen? ⟨E, o, none⟩ = false
  fg : ∀ o, w.frozen? ⟨g, o, none⟩ = false
  text : Src w b l
  tab : TabAt 1 Lib.deBruijn64tab w
  eb : E ≠ b
  eg : E ≠ g
  gb : g ≠ b
  e1 : E ≠ 1
  g1 : g ≠ 1
  lb : l.length ≤ cb
  lg : l.length ≤ cg
  n0 : 0 < l.length
  small : l.length ≤ 1048576

section
variable {w w' : World} {E b cb g cg : Nat} {l : List UInt8} {p : Nat}

theorem tab_lt (h : TabAt 1 Lib.deBruijn64tab w) : 1 < w.heap.size := block_lt_of_cell (h 0 (by decide))
theorem Fd.E_lt (h : Fd w E b cb g cg l p) : E < w.heap.size := block_lt_of_cell h.src
theorem Fd.g_lt (h : Fd w E b cb g cg l p) : g < w.heap.size := by obtain ⟨cur, h1, _⟩ := h.shape; exact (Array.getElem?_eq_some_iff.1 h1).1
theorem Fd.b_lt (h : Fd w E b cb g cg l p) : b < w.heap.size := block_lt_of_cell (h.text 0 h.n0)

/-- Four blocks as they were. -/
theorem Fd.keep (h : Fd w E b cb g cg l p) (hE : w'.heap[E]? = w.heap[E]?) (hg : w'.heap[g]? = w.heap[g]?) (hb : w'.heap[b]? = w.heap[b]?) (h1 : w'.heap[1]? = w.heap[1]?) : Fd w' E b cb g cg l p where
  src := (World.cell?_of_block (a := ⟨E, 0, none⟩) hE).trans h.src
  head := fun i hi => (World.cell?_of_block (a := ⟨E, 1 + i, none⟩) hE).trans (h.head i hi)
  prev := (World.cell?_of_block (a := ⟨E, 8193, none⟩) hE).trans h.prev
  shape := by rw [hg]; exact h.shape
  row := fun j hj => by obtain ⟨x, hx⟩ := h.row j hj; exact ⟨x, (World.cell?_of_block (a := ⟨g, j, none⟩) hg).trans hx⟩
  chain := fun j hj h4 => (World.cell?_of_block (a := ⟨g, j, none⟩) hg).trans (h.chain j hj h4)
  fE := fun o => (World.frozen?_of_block (a := ⟨E, o, none⟩) hE).trans (h.fE o)
  fg := fun o => (World.frozen?_of_block (a := ⟨g, o, none⟩) hg).trans (h.fg o)
  text := fun i hi => (World.cell?_of_block (a := ⟨b, i, none⟩) hb).trans (h.text i hi)
  tab := fun i hi => (World.cell?_of_block (a := ⟨1, i, none⟩) h1).trans (h.tab i hi)
  eb := h.eb
  eg := h.eg
  gb := h.gb
  e1 := h.e1
  g1 := h.g1
  lb := h.lb
  lg := h.lg
  n0 := h.n0
  small := h.small

theorem Fd.below (h : Fd w E b cb g cg l p) (hb : Below w.heap.size w w') : Fd w' E b cb g cg l p :=
  h.keep (hb.block _ h.E_lt) (hb.block _ h.g_lt) (hb.block _ h.b_lt) (hb.block _ (tab_lt h.tab))
theorem Fd.drewN (h : Fd w E b cb g cg l p) (n : Nat) : Fd (w.drewN n) E b cb g cg l p := h.keep rfl rfl rfl rfl
theorem Fd.drew (h : Fd w E b cb g cg l p) : Fd w.drew E b cb g cg l p := h.keep rfl rfl rfl rfl
theorem Fd.alloc (h : Fd w E b cb g cg l p) (o : Obj) : Fd (w.alloc o) E b cb g cg l p := h.below ((Below.refl _ _).alloc (Nat.le_refl _) o)
/-- A store into another block. -/
theorem Fd.setNew (h : Fd w E b cb g cg l p) {a : Addr} (u : Value) (h1 : a.block ≠ E) (h2 : a.block ≠ g) (h3 : a.block ≠ b) (h4 : a.block ≠ 1) : Fd (w.setCell a u) E b cb g cg l p :=
  h.keep (Below.heap_setCell w a u E (Ne.symm h1)) (Below.heap_setCell w a u g (Ne.symm h2)) (Below.heap_setCell w a u b (Ne.symm h3)) (Below.heap_setCell w a u 1 (Ne.symm h4))
/-- A store into another block, a new one. -/
theorem Fd.setPast (h : Fd w E b cb g cg l p) {w0 : World} {q : Nat} (h0 : Fd w0 E b cb g cg l q) {a : Addr} (u : Value) (ha : w0.heap.size ≤ a.block) : Fd (w.setCell a u) E b cb g cg l p :=
  h.setNew u (by have := h0.E_lt; omega) (by have := h0.g_lt; omega) (by have := h0.b_lt; omega) (by have := tab_lt h0.tab; omega)

/-- A store into the encoder's other fields. -/
theorem Fd.setFar (h : Fd w E b cb g cg l p) (o : Nat) (ho : 8194 ≤ o) (u : Value) : Fd (w.setCell ⟨E, o, none⟩ u) E b cb g cg l p := by
  have sE : ∀ y, y < 8194 → (w.setCell ⟨E, o, none⟩ u).cell? ⟨E, y, none⟩ = w.cell? ⟨E, y, none⟩ := fun y hy => World.cell?_setCell_other _ _ _ _ (by intro e; injection e with e1 e2; omega)
  have sO : ∀ k y, k ≠ E → (w.setCell ⟨E, o, none⟩ u).cell? ⟨k, y, none⟩ = w.cell? ⟨k, y, none⟩ := fun k y hk => World.cell?_setCell_other _ _ _ _ (by intro e; injection e with e1 e2; exact hk e1.symm)
  refine ⟨?_, ?_, ?_, shape_set h.shape _ _, ?_, ?_, fun o => ?_, fun o => ?_, ?_, ?_, h.eb, h.eg, h.gb, h.e1, h.g1, h.lb, h.lg, h.n0, h.small⟩
  · rw [sE _ (by omega)]; exact h.src
  · intro k hk; rw [sE _ (by omega)]; exact h.head k hk
  · rw [sE _ (by omega)]; exact h.prev
  · intro j hj; rw [sO _ _ (Ne.symm h.eg)]; exact h.row j hj
  · intro j hj h4; rw [sO _ _ (Ne.symm h.eg)]; exact h.chain j hj h4
  · simp only [World.frozen?_setCell]; exact h.fE o
  · simp only [World.frozen?_setCell]; exact h.fg o
  · intro i hi; rw [sO _ _ (Ne.symm h.eb)]; exact h.text i hi
  · intro i hi; rw [sO _ _ (Ne.symm h.e1)]; exact h.tab i hi

/-- The place p goes in. -/
theorem Fd.insert (h : Fd w E b cb g cg l p) (h4 : p + 4 ≤ l.length) :
    Fd ((w.setCell ⟨g, p, none⟩ (.int .i32 (last l p (hsh l p)))).setCell ⟨E, 1 + hsh l p, none⟩ (.int .i32 (p : Int))) E b cb g cg l (p + 1) := by
  have hE := hsh_lt l p
  have oE : ∀ o x u v, ((w.setCell ⟨g, o, none⟩ u).setCell ⟨E, x, none⟩ v).cell? ⟨E, x, none⟩ = some v ∨ w.cell? ⟨E, x, none⟩ = none := by
    intro o x u v
    cases e : w.cell? ⟨E, x, none⟩ with
    | none => exact .inr rfl
    | some y => exact .inl (World.cell?_setCell_same (u := y) _ _ _ (by rw [World.cell?_setCell_other _ _ _ _ (by intro e; injection e with e1; exact h.eg e1.symm)]; exact e))
  have sE : ∀ o x u v y, y ≠ x → ((w.setCell ⟨g, o, none⟩ u).setCell ⟨E, x, none⟩ v).cell? ⟨E, y, none⟩ = w.cell? ⟨E, y, none⟩ := by
    intro o x u v y hy
    rw [World.cell?_setCell_other _ _ _ _ (by intro e; injection e with e1 e2; exact hy e2.symm), World.cell?_setCell_other _ _ _ _ (by intro e; injection e with e1; exact h.eg e1.symm)]
  have sO : ∀ o x u v k y, k ≠ E → (k = g → y ≠ o) → ((w.setCell ⟨g, o, none⟩ u).setCell ⟨E, x, none⟩ v).cell? ⟨k, y, none⟩ = w.cell? ⟨k, y, none⟩ := by
    intro o x u v k y hk hy
    rw [World.cell?_setCell_other _ _ _ _ (by intro e; injection e with e1 e2; exact hk e1.symm), World.cell?_setCell_other _ _ _ _ (by intro e; injection e with e1 e2; exact hy e1.symm e2.symm)]
  have sG : ∀ x v, ((w.setCell ⟨g, p, none⟩ (.int .i32 (last l p (hsh l p)))).setCell ⟨E, x, none⟩ v).cell? ⟨g, p, none⟩ = some (.int .i32 (last l p (hsh l p))) := by
    intro x v
    obtain ⟨y, hy⟩ := h.row p (by omega)
    rw [World.cell?_setCell_other _ _ _ _ (by intro e; injection e with e1 e2; exact h.eg e1), World.cell?_setCell_same (u := _) _ _ _ hy]
  refine ⟨?_, ?_, ?_, shape_set (shape_set h.shape _ _) _ _, ?_, ?_, fun o => ?_, fun o => ?_, ?_, ?_, h.eb, h.eg, h.gb, h.e1, h.g1, h.lb, h.lg, h.n0, h.small⟩
  · rw [sE _ _ _ _ _ (by omega)]; exact h.src
  · intro k hk
    by_cases e : k = hsh l p
    · subst e
      rcases oE p (1 + hsh l p) (.int .i32 (last l p (hsh l p))) (.int .i32 (p : Int)) with h1 | h1
      · rw [h1]; unfold last; rw [if_pos ⟨h4, rfl⟩]
      · rw [h.head _ hk] at h1; cases h1
    · rw [sE _ _ _ _ _ (by omega), h.head k hk]; unfold last; rw [if_neg (by intro c; exact e c.2.symm)]; cases p <;> rfl
  · rw [sE _ _ _ _ _ (by omega)]; exact h.prev
  · intro j hj
    by_cases e : j = p
    · subst e; exact ⟨_, sG _ _⟩
    · rw [sO _ _ _ _ _ _ (Ne.symm h.eg) (fun _ => e)]; exact h.row j hj
  · intro j hj h4
    by_cases e : j = p
    · subst e; exact sG _ _
    · rw [sO _ _ _ _ _ _ (Ne.symm h.eg) (fun _ => e)]; exact h.chain j (by omega) h4
  · simp only [World.frozen?_setCell]; exact h.fE o
  · simp only [World.frozen?_setCell]; exact h.fg o
  · intro i hi
    rw [sO _ _ _ _ _ _ (Ne.symm h.eb) (fun e => absurd e.symm h.gb)]; exact h.text i hi
  · intro i hi
    rw [sO _ _ _ _ _ _ (Ne.symm h.e1) (fun e => absurd e.symm h.g1)]; exact h.tab i hi

/-- A place that is no place to insert. -/
theorem Fd.pass (h : Fd w E b cb g cg l p) (h4 : l.length < p + 4) : Fd w E b cb g cg l (p + 1) :=
  { h with
    head := fun k hk => by rw [h.head k hk]; unfold last; rw [if_neg (by omega)]; cases p <;> rfl
    chain := fun j hj h5 => h.chain j (by omega) h5 }
end

end Go.Proofs.Qxb6625871aDoor
