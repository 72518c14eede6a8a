import Derived.Test.Qxb6625441aDoorLaw1
/-! 'append' onto a slice with no room to spare: what comes back lies in a new block. So appendHeader onto a clone. -/
namespace Go.Proofs.Qxb6625441aDoor
open Go.RowKit Go.Lib

theorem run_append_full {P : Program} (w : World) (t ty e : TypeId) (i : TypeInfo) (ht : P.underlying t = some (.slice e)) (hi : P.info? e = some i) (hz : i.zero = some (.int .u8 0))
    (hsize : i.size = 1) (hby : i.bytes = 1) (B : Nat) (v : Value) (n : Nat) (xs : List Value) (hown : w.ownsRow B e 1 v n xs) (hfull : ∃ a, v = .slice a n n)
    (a : Addr) (m c : Nat) (news : List Value) (hl : news.length = m) (hnews : ∀ j u, news[j]? = some u → w.cell? (a.add j) = some u) (h1 : ∀ u ∈ news, u.oneCell' = true) (hm : 0 < m) (hlim : n + m ≤ 140737488355328) :
    ∃ v' w', (Builtin.append_ #[t, t] ty #[v, .slice (some a) m c]).run P w = .ok v' w' ∧ w'.ownsRow w.heap.size e 1 v' (n + m) (xs ++ news) ∧ w.grownBy w' none := by
  have hmax : n + m ≤ maxLen := by unfold maxLen; omega
  rcases hown.2 with ⟨rfl, rfl⟩ | ⟨g, cap, cur, rfl, hbg, hg, hnc, hcm, hcs, htake⟩
  · have hx : xs = [] := List.eq_nil_of_length_eq_zero (by simpa using hown.1)
    subst hx
    obtain ⟨v', w', hr, ho, hgr, _⟩ := run_append_own (P := P) w w.heap.size t ty e i (.int .u8 0) 1 1 ht hi hz hsize hby rfl (by decide) (.slice none 0 0) 0 [] (World.ownsRow_nil _ _ _ _) a m c news (by simpa using hl) hnews h1 hmax (by simpa using hlim) (Nat.le_refl _)
    exact ⟨v', w', hr, ho, hgr⟩
  · obtain ⟨a', ha'⟩ := hfull
    simp only [Value.slice.injEq, true_and] at ha'
    obtain ⟨-, rfl⟩ := ha'
    have hxl : xs.length = cap := by simpa using hown.1
    have hr := run_append_grow (P := P) w t ty e i (.int .u8 0) ht hi hz ⟨g, 0, none⟩ cap cap xs (by rw [hsize]; omega) (hown.cells (g := g) rfl) a m c news (by rw [hsize]; omega) hnews (by omega) (by omega) (growslice_fits (by omega) (by rw [hby]; omega))
    have hge := grownCap_ge w (cap + m) cap e
    have hcm2 : grownCap w (cap + m) cap e ≤ maxLen := grownCap_le_maxLen w (cap + m) cap e hmax
    have hz1 : (Value.int IntKind.u8 0).cells.size = 1 := rfl
    refine ⟨_, _, hr, ⟨by simp [hxl, hl], .inr ⟨w.heap.size, _, _, rfl, Nat.le_refl _, Go.heap_alloc_new w.drew _, hge, hcm2, ?_, ?_⟩⟩, ⟨rfl, rfl, rfl, by simp, fun k hk _ => Below.heap_alloc w.drew _ k hk⟩⟩
    · simp only [Array.size_append, List.size_toArray, size_zeroCells, hz1, hxl, hl]
      omega
    · simp only [Array.toList_append, List.append_assoc, Nat.mul_one]
      rw [← List.append_assoc, List.take_append_of_le_length (by simp [hxl, hl])]
      rw [List.take_of_length_le (by simp [hxl, hl])]

theorem wpList_append_full {P : Program} (w : World) {ops : Array Oper} {rest : List Oper} {o : Oper} {a : Act} {Q : Exit → Act → World → Prop} (hgd : o.guard = none) (s x : Operand) (t : TypeId)
    (ho : o.op = .call { callee := .builtin .append, args := #[s, x], argTypes := #[t, t] })
    (e : TypeId) (i : TypeInfo) (ht : P.underlying t = some (.slice e)) (hi : P.info? e = some i) (hz : i.zero = some (.int .u8 0)) (hsize : i.size = 1) (hby : i.bytes = 1)
    (B : Nat) (v : Value) (n : Nat) (xs : List Value) (hs : a.eval s = v) (hown : w.ownsRow B e 1 v n xs) (hfull : ∃ a, v = .slice a n n)
    (ad : Addr) (m c : Nat) (news : List Value) (hx : a.eval x = .slice (some ad) m c) (hl : news.length = m) (hnews : ∀ j u, news[j]? = some u → w.cell? (ad.add j) = some u) (h1 : ∀ u ∈ news, u.oneCell' = true) (hm : 0 < m) (hlim : n + m ≤ 140737488355328)
    (h : ∀ v' w', w'.ownsRow w.heap.size e 1 v' (n + m) (xs ++ news) → w.grownBy w' none → wpList P ops Q rest (a.put o.dst v') w') : wpList P ops Q (o :: rest) a w := by
  refine wpList_plain hgd fun K hK => ?_
  obtain ⟨v', w', hr, h2, h3⟩ := run_append_full (P := P) w t o.type e i ht hi hz hsize hby B v n xs hown hfull ad m c news hl hnews h1 hm hlim
  unfold Oper.wp execOp
  simp only [ho, resolve, invoke, builtin, Sem.run_bind, Sem.run_pure, Result.andThen_ok, List.map_toArray, List.map_cons, List.map_nil, hs, hx, hr]
  exact hK _ _ (h v' w' h2 h3)

/-- zzClone, with no room to spare. -/
theorem clone_full (v : Value) (l : List UInt8) (hl : l.length ≤ 1048576) (k : Nat) (hk : l.length = k) (w : World) (hv : Rd w v l) :
    Calls Tryd.prog 6 #[v] w fun e w' => ∃ a, e = .returned (.slice a k k) ∧ w'.ownsRow w.heap.size 5 1 (.slice a k k) l.length (byteCells l) ∧ Below w.heap.size w w' := by
  refine (clone_is v l hl k hk w hv).mono fun e w' ⟨a, c, he, hc, ho, hb⟩ => ?_
  subst hc
  exact ⟨a, he, ho, hb⟩

theorem own_rebase {w : World} {B B' : Nat} {v : Value} {n : Nat} {xs : List Value} (h : w.ownsRow B 5 1 v n xs) (hB : B' ≤ B) : w.ownsRow B' 5 1 v n xs := by
  refine ⟨h.1, ?_⟩
  rcases h.2 with hn | ⟨g, cap, cur, hv, hb, r⟩
  · exact .inl hn
  · exact .inr ⟨g, cap, cur, hv, Nat.le_trans hB hb, r⟩

theorem own_below {w w' : World} {B : Nat} {v : Value} {n : Nat} {xs : List Value} (h : w.ownsRow B 5 1 v n xs) (hb : Below w.heap.size w w') : w'.ownsRow B 5 1 v n xs := by
  have hlt := h.lt
  refine ⟨h.1, ?_⟩
  rcases h.2 with hn | ⟨g, cap, cur, rfl, hbg, hg, r⟩
  · exact .inl hn
  · exact .inr ⟨g, cap, cur, rfl, hbg, (hb.block g (hlt g rfl).2).trans hg, r⟩

set_option maxHeartbeats 1000000 in
theorem hdr_full (B : Nat) (sv : Value) (xs : List UInt8) (t : UInt8) (n : Int) (h0 : -9223372036854775808 ≤ n) (h1 : n ≤ 9223372036854775807) (w : World)
    (hown : w.ownsRow B 5 1 sv xs.length (byteCells xs)) (hfull : ∃ a, sv = .slice a xs.length xs.length) (hlim : xs.length ≤ 1073741824)
    (hT : Lib.TabBelow Tryd.prog w.heap.size w "internal/strconv.uint64pow10" .u64 Lib.pow10Tab) :
    Calls Tryd.prog 12 #[sv, .int .u8 (t.toNat : Int), .int .i64 n] w fun e w' => ∃ v', e = .returned v' ∧ w'.ownsRow w.heap.size 5 1 v' (xs ++ hdr t n).length (byteCells (xs ++ hdr t n)) ∧ Below w.heap.size w w' := by
  obtain ⟨i0, hi, hz0, hz1, hz2⟩ := info_parts infoByte
  have ln := Lib.itoa_length_le n h0 h1
  go_enter Tryd.func12, Tryd.ntmps12
  go_wp2_with (at_builtin; refine wpList_append_full _ rfl _ _ 22 rfl 5 i0 Tryd.underlying22 hi hz0 hz1 hz2 B _ _ _ rfl (hown.alloc _) hfull ⟨w.heap.size, 0, none⟩ 1 1 [Value.int .u8 (t.toNat : Int)] rfl rfl ?c1 ?c2 (by decide) ?c4 ?_)
  case c1 => intro j u' hj; match j, hj with | 0, hj => simp at hj; subst hj; simp [Addr.add]
  case c2 => intro u' hu'; simp at hu'; subst hu'; rfl
  case c4 => omega
  intro v2 w2 hown2' hgrow
  have hown2 : w2.ownsRow w.heap.size 5 1 v2 (xs.length + 1) (byteCells xs ++ [Value.int .u8 (t.toNat : Int)]) := own_rebase hown2' (by simp)
  have hnx2 : Below w.heap.size w w2 := ((Below.refl w.heap.size w).alloc (Nat.le_refl _) _).grown hgrow (by simp) (fun k hk => by cases hk)
  have hB2 : w.heap.size ≤ w2.heap.size := hnx2.size
  have hq : xs.length + 1 + 21 ≤ 140737488355328 := by omega
  clear hown2'
  go_wp2_with (go_at_call 14; refine (Tryd.strconv_AppendInt_10 w.heap.size _ n h0 h1 v2 _ w2 hown2 hB2 hq (hT.on hnx2)).mono ?_; rintro e w3 ⟨v3, rfl, hown3, hnx3, -⟩; refine Hid.out ?_)
  refine Lib.hid ?_
  have hB3 : w.heap.size ≤ w3.heap.size := by have := hnx3.size; omega
  go_wp2_with (at_builtin; refine wpList_append_own_string _ rfl _ _ 22 9 rfl w.heap.size 5 i0 Tryd.underlying22 Tryd.underlying9 hi hz0 hz1 hz2 _ _ _ rfl hown3 _ rfl ?d1 ?d2 hB3 ?_)
  case d1 => unfold maxLen; show _ + 2 ≤ _; omega
  case d2 => show _ + 2 ≤ _; omega
  intro v4 w4 hown4 hgrow4 _
  have hnx4 : Below w.heap.size w3 w4 := (Below.refl w.heap.size w3).grown hgrow4 hB3 (fun k hk => (hown3.lt k hk).1)
  go_wp2
  go_ret
  refine ⟨_, rfl, ?_, (hnx2.trans hnx3).trans hnx4⟩
  have e1 : byteCells (xs ++ hdr t n) = byteCells xs ++ Value.int .u8 (t.toNat : Int) :: (byteCells (itoa n) ++ strCells { data := #[13, 10] }) := by
    simp [byteCells, hdr, strCells]
  have e2 : (xs ++ hdr t n).length = xs.length + 1 + (itoa n).length + 2 := by simp [hdr]; omega
  rw [e1, e2]
  exact hown4

set_option maxHeartbeats 400000 in
/-- The thin door of appendHeader, onto a slice with no room to spare: the value written out. -/
theorem zhdr_full (B : Nat) (sv : Value) (xs : List UInt8) (t : UInt8) (n : Int) (h0 : -9223372036854775808 ≤ n) (h1 : n ≤ 9223372036854775807) (N : Nat) (hN : (xs ++ hdr t n).length = N) (w : World)
    (hown : w.ownsRow B 5 1 sv xs.length (byteCells xs)) (hfull : ∃ a, sv = .slice a xs.length xs.length) (hlim : xs.length ≤ 1073741824)
    (hT : Lib.TabBelow Tryd.prog w.heap.size w "internal/strconv.uint64pow10" .u64 Lib.pow10Tab) :
    Calls Tryd.prog 7 #[sv, .int .u8 (t.toNat : Int), .int .i64 n] w fun e w' => ∃ g c, e = .returned (.slice (some ⟨g, 0, none⟩) N c) ∧ N ≤ c ∧ w'.ownsRow w.heap.size 5 1 (.slice (some ⟨g, 0, none⟩) N c) (xs ++ hdr t n).length (byteCells (xs ++ hdr t n)) ∧ Below w.heap.size w w' := by
  subst hN
  go_enter Tryd.func7, Tryd.ntmps7
  go_wp2_with (go_at_call 12; refine (hdr_full B sv xs t n h0 h1 w hown hfull hlim hT).mono ?_; rintro e w2 ⟨v2, rfl, hown2, hnx2⟩)
  go_ret
  obtain ⟨g, c, hv, h1, h2, h3⟩ := own_form_pos hown2 (by simp [hdr]; omega)
  rw [hv] at hown2
  exact ⟨g, c, by rw [← hv]; rfl, h1, hown2, hnx2⟩

end Go.Proofs.Qxb6625441aDoor
