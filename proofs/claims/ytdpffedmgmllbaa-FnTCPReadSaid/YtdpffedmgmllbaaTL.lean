/-
  The options of a segment: the first four lie in the header's own row, more in a block of their own.
-/
import Derived.Test.YtdpffedmgmllbaaIP4H
import Derived.Laws.AppendOwn
namespace Go.Proofs.Ytdpffedmgmllbaa
open Go.RowKit

theorem info_oT : (Try.prog.info? 78).map (fun i => (i.zero, i.size, i.bytes)) = some (some (.agg #[.int .u8 0, .int .u8 0, .slice none 0 0]), 3, 32) := by kernel_rfl

/-- the records stand in the list from number off on -/
def Seg (L : List Value) (off : Nat) (rs : List (Opt × Value)) : Prop := ∃ A R, L = A ++ (recs .u8 .u8 rs ++ R) ∧ A.length = off
/-- no other cell of the header than those of its options is turned -/
def Off23 (C C' : List Value) : Prop := C'.length = C.length ∧ C'.take 23 = C.take 23 ∧ C'.drop 35 = C.drop 35
theorem Off23.refl (C : List Value) : Off23 C C := ⟨rfl, rfl, rfl⟩
theorem Off23.trans {A B C : List Value} (h : Off23 A B) (h' : Off23 B C) : Off23 A C := ⟨h'.1.trans h.1, h'.2.1.trans h.2.1, h'.2.2.trans h.2.2⟩

theorem seg_nil {L : List Value} {off : Nat} (h : off ≤ L.length) : Seg L off [] := ⟨L.take off, L.drop off, by simp [recs], by rw [List.length_take]; omega⟩
theorem Seg.le {L : List Value} {off : Nat} {rs : List (Opt × Value)} (h : Seg L off rs) : off + rs.length * 3 ≤ L.length := by
  obtain ⟨A, R, rfl, rfl⟩ := h
  simp only [List.length_append, recs_length]
  omega
theorem Seg.app {L : List Value} {off : Nat} {rs : List (Opt × Value)} (h : Seg L off rs) (p : Opt × Value) (hl : off + rs.length * 3 + 3 ≤ L.length) :
    Seg (L.take (off + rs.length * 3) ++ [.int .u8 p.1.kind, .int .u8 p.1.len, p.2] ++ L.drop (off + rs.length * 3 + 3)) off (rs ++ [p]) := by
  obtain ⟨A, R, rfl, rfl⟩ := h
  have e1 : (A ++ (recs .u8 .u8 rs ++ R)).take (A.length + rs.length * 3) = A ++ recs .u8 .u8 rs := by
    rw [← List.append_assoc]
    exact List.take_left' (by rw [List.length_append, recs_length])
  rw [e1]
  refine ⟨A, (A ++ (recs .u8 .u8 rs ++ R)).drop (A.length + rs.length * 3 + 3), ?_, rfl⟩
  have := recs_snoc .u8 .u8 rs p.1 p.2
  rw [show rs ++ [p] = rs ++ [(p.1, p.2)] from rfl, this]
  simp only [List.append_assoc]
theorem Seg.app_off {L : List Value} {rs : List (Opt × Value)} (_h : Seg L 23 rs) (p q r : Value) (hn : rs.length < 4) (hl : L.length = 36) :
    Off23 L (L.take (23 + rs.length * 3) ++ [p, q, r] ++ L.drop (23 + rs.length * 3 + 3)) := by
  refine ⟨?_, ?_, ?_⟩
  · simp only [List.length_append, List.length_take, List.length_drop, List.length_cons, List.length_nil]
    omega
  · rw [List.append_assoc, List.take_append_of_le_length (by rw [List.length_take]; omega), List.take_take, Nat.min_eq_left (by omega)]
  · rw [List.drop_append, List.drop_drop]
    have e : (L.take (23 + rs.length * 3) ++ [p, q, r]).length = 23 + rs.length * 3 + 3 := by
      simp only [List.length_append, List.length_take, List.length_cons, List.length_nil]; omega
    rw [e, List.drop_eq_nil_of_le (by rw [e]; omega), List.nil_append]
    congr 1
    omega
theorem Seg.set {L : List Value} {off : Nat} {rs : List (Opt × Value)} {p : Opt × Value} (h : Seg L off (rs ++ [p])) (p' : Opt × Value) (i : Nat) (u : Value)
    (he : ([.int .u8 p.1.kind, .int .u8 p.1.len, p.2] : List Value).set i u = [.int .u8 p'.1.kind, .int .u8 p'.1.len, p'.2]) (hi : i < 3) : Seg (L.set (off + rs.length * 3 + i) u) off (rs ++ [p']) := by
  obtain ⟨A, R, rfl, rfl⟩ := h
  refine ⟨A, R, ?_, rfl⟩
  rw [show rs ++ [p] = rs ++ [(p.1, p.2)] from rfl, show rs ++ [p'] = rs ++ [(p'.1, p'.2)] from rfl, recs_snoc, recs_snoc, ← he]
  have e : A ++ (recs .u8 .u8 rs ++ [.int .u8 p.1.kind, .int .u8 p.1.len, p.2] ++ R) = (A ++ recs .u8 .u8 rs) ++ ([.int .u8 p.1.kind, .int .u8 p.1.len, p.2] ++ R) := by simp only [List.append_assoc]
  have el : (A ++ recs .u8 .u8 rs).length = A.length + rs.length * 3 := by rw [List.length_append, recs_length]
  rw [e, List.set_append_right _ _ (by rw [el]; omega), el, List.set_append_left _ _ (by simp; omega), show A.length + rs.length * 3 + i - (A.length + rs.length * 3) = i by omega]
  simp only [List.append_assoc]
theorem set_off {L : List Value} {j : Nat} {u : Value} (h1 : 23 ≤ j) (h2 : j < 35) : Off23 L (L.set j u) := by
  refine ⟨by simp, ?_, ?_⟩
  · rw [List.take_set_of_le h1]
  · rw [List.drop_set_of_lt h2]
theorem Seg.get {L : List Value} {off : Nat} {rs : List (Opt × Value)} (h : Seg L off rs) {j : Nat} {p : Opt × Value} (hj : rs[j]? = some p) :
    L[off + j * 3]? = some (.int .u8 p.1.kind) ∧ L[off + j * 3 + 1]? = some (.int .u8 p.1.len) ∧ L[off + j * 3 + 2]? = some p.2 := by
  obtain ⟨A, R, rfl, rfl⟩ := h
  have hr := recs_get .u8 .u8 rs j p hj
  have hlt := (List.getElem?_eq_some_iff.1 hj).1
  have g : ∀ i, i < 3 → (A ++ (recs .u8 .u8 rs ++ R))[A.length + (j * 3 + i)]? = (recs .u8 .u8 rs)[j * 3 + i]? := fun i hi => by
    rw [List.getElem?_append_right (by omega), Nat.add_sub_cancel_left, List.getElem?_append_left (by rw [recs_length]; omega)]
  refine ⟨?_, ?_, ?_⟩
  · exact (g 0 (by omega)).trans hr.1
  · rw [Nat.add_assoc]; exact (g 1 (by omega)).trans hr.2.1
  · rw [Nat.add_assoc]; exact (g 2 (by omega)).trans hr.2.2

theorem Seg.at {L : List Value} {off : Nat} {rs : List (Opt × Value)} (h : Seg L off rs) {j : Nat} {u : Value} (hj : (recs .u8 .u8 rs)[j]? = some u) : L[off + j]? = some u := by
  obtain ⟨A, R, rfl, rfl⟩ := h
  rw [List.getElem?_append_right (by omega), Nat.add_sub_cancel_left, List.getElem?_append_left (List.getElem?_eq_some_iff.1 hj).1]
  exact hj

theorem rowW_allocT {w : World} {D : Nat} {cs : List Value} {e : TypeId} (hD : Has w D) (o : Obj) : (rowW w D cs e).alloc o = rowW (w.alloc o) D cs e := by
  have h : D < w.heap.size := hD
  simp only [rowW, World.alloc]
  congr 1
  apply Array.ext_getElem?
  intro i
  rw [Array.getElem?_push, Array.getElem?_setIfInBounds, Array.getElem?_setIfInBounds, Array.getElem?_push, Array.size_push, Array.size_setIfInBounds]
  by_cases h1 : i = w.heap.size
  · subst h1
    rw [if_pos rfl, if_neg (by omega), if_pos rfl]
  · rw [if_neg h1]
    by_cases h2 : D = i
    · subst h2
      rw [if_pos rfl, if_pos rfl, if_pos h, if_pos (by omega)]
    · rw [if_neg h2, if_neg h2, if_neg h1]
theorem rowW_setRow {w : World} {D : Nat} {cs cs' : List Value} {e : TypeId} : (rowW w D cs e).setRow D cs'.toArray = rowW w D cs' e := by
  simp only [rowW, World.setRow]
  congr 1
  apply Array.ext_getElem?
  intro i
  rw [Array.getElem?_modify, Array.getElem?_setIfInBounds, Array.getElem?_setIfInBounds]
  by_cases h : D = i
  · subst h
    by_cases h2 : D < w.heap.size
    · simp [h2]
    · simp [h2]
  · simp [h]
theorem rowW_setRow_other {w : World} {D g : Nat} {cs : List Value} {a : Array Value} {e : TypeId} (hg : g ≠ D) : (rowW w D cs e).setRow g a = rowW (w.setRow g a) D cs e := by
  simp only [rowW, World.setRow]
  congr 1
  apply Array.ext_getElem?
  intro i
  rw [Array.getElem?_modify, Array.getElem?_setIfInBounds, Array.getElem?_setIfInBounds, Array.getElem?_modify, Array.size_modify]
  by_cases h : D = i
  · subst h
    simp [hg]
  · simp [h]

section
variable {P : Program} {w : World}
/-- 'append(s, x)' of one record where there is room, wherever the list lies -/
theorem app_room (t ty e : TypeId) (i : TypeInfo) (ht : P.underlying t = some (.slice e)) (hi : P.info? e = some i) (hs : i.size = 3)
    (g off n cap : Nat) (cur : Array Value) (e' : TypeId) (hg : w.heap[g]? = some (.cells cur e' (0, 0))) (hfit : off + n * 3 + 3 ≤ cur.size) (hn : n < cap)
    (b c : Nat) (p q r : Value) (h0 : w.cell? ⟨b, 0, none⟩ = some p) (h1 : w.cell? ⟨b, 1, none⟩ = some q) (h2 : w.cell? ⟨b, 2, none⟩ = some r) (o0 : p.oneCell' = true) (o1 : q.oneCell' = true) (o2 : r.oneCell' = true) :
    (Builtin.append_ #[t, t] ty #[.slice (some ⟨g, off, none⟩) n cap, .slice (some ⟨b, 0, none⟩) 1 c]).run P w =
      .ok (.slice (some ⟨g, off, none⟩) (n + 1) cap) (w.setRow g (cur.toList.take (off + n * 3) ++ [p, q, r] ++ cur.toList.drop (off + n * 3 + 3)).toArray) := by
  have hf := run_firstCells_some (P := P) w i.size 1 ⟨b, 0, none⟩ 1 c [p, q, r] (by rw [hs]; rfl) (by
    intro j u hu
    have hj : j < 3 := by have := (List.getElem?_eq_some_iff.1 hu).1; simpa using this
    match j, hj with
    | 0, _ => simp at hu; subst hu; simpa [Addr.add_lit] using h0
    | 1, _ => simp at hu; subst hu; simpa [Addr.add_lit] using h1
    | 2, _ => simp at hu; subst hu; simpa [Addr.add_lit] using h2)
  have hst := run_storeCells_at P g (off + n * 3) e' [p, q, r] 0 cur w hg (by simp; omega) (by intro v hv; simp at hv; rcases hv with rfl | rfl | rfl <;> assumption)
  simp only [Nat.add_zero, List.length_cons, List.length_nil, Nat.zero_add] at hst
  rw [hs] at hf
  have hle : n + 1 ≤ cap := hn
  simp [Builtin.append_, run_underlying ht, sizeOf, typeInfo, hi, hs, Builtin.lenOf, hle, hf, Addr.add_lit, hst]
end

/-- The options of the header in the row D whose cells are C; x is the world under that row. -/
def TL (x : World) (C : List Value) (D base : Nat) (v : Value) (rs : List (Opt × Value)) : Prop :=
  C.length = 36 ∧ ((v = .slice (some ⟨D, 23, none⟩) rs.length 4 ∧ rs.length ≤ 4 ∧ Seg C 23 rs) ∨
    ∃ g cap cur, v = .slice (some ⟨g, 0, none⟩) rs.length cap ∧ g ≠ D ∧ base ≤ g ∧ x.heap[g]? = some (.cells cur 78 (0, 0)) ∧ rs.length ≤ cap ∧ cap * 3 ≤ cur.size ∧ Seg cur.toList 0 rs)
/-- .. and the last of them lies at (g, o) -/
def TP (x : World) (C : List Value) (D base : Nat) (v : Value) (rs : List (Opt × Value)) (p : Opt × Value) (g o : Nat) : Prop :=
  TL x C D base v (rs ++ [p]) ∧ ∃ off cap, v = .slice (some ⟨g, off, none⟩) (rs.length + 1) cap ∧ o = off + rs.length * 3

section
variable {x : World} {C : List Value} {D base : Nat} {v : Value} {rs : List (Opt × Value)} {p : Opt × Value} {g o : Nat} {t : TypeId}
theorem TL.gr {x' : World} (h : TL x C D base v rs) (hg : Gr x x') : TL x' C D base v rs := by
  refine ⟨h.1, h.2.imp id ?_⟩
  rintro ⟨g, cap, cur, h1, h2, h3, h4, h5⟩
  exact ⟨g, cap, cur, h1, h2, h3, heap_gr hg h4, h5⟩
theorem TL.swap {C' : List Value} (h : TL x C D base v rs) (hl : C'.length = 36) (hd : C'.drop 23 = C.drop 23) : TL x C' D base v rs := by
  refine ⟨hl, h.2.imp ?_ id⟩
  rintro ⟨h1, h2, A, R, h3, h4⟩
  refine ⟨h1, h2, C'.take 23, R, ?_, by rw [List.length_take]; omega⟩
  have e : recs .u8 .u8 rs ++ R = C'.drop 23 := by rw [hd, h3, ← h4, List.drop_left]
  rw [e, List.take_append_drop]
theorem TP.swap {C' : List Value} (h : TP x C D base v rs p g o) (hl : C'.length = 36) (hd : C'.drop 23 = C.drop 23) : TP x C' D base v rs p g o := ⟨h.1.swap hl hd, h.2⟩
theorem TP.gr {x' : World} (h : TP x C D base v rs p g o) (hg : Gr x x') : TP x' C D base v rs p g o := ⟨h.1.gr hg, h.2⟩
theorem Off23.lit {A C' : List Value} (h : Off23 A C') (hl : A.length = 36) : ∃ zs : List Value, zs.length = 12 ∧ C' = A.take 23 ++ (zs ++ A.drop 35) := by
  obtain ⟨h1, h2, h3⟩ := h
  refine ⟨(C'.drop 23).take 12, by rw [List.length_take, List.length_drop]; omega, ?_⟩
  rw [← h2, ← h3]
  have e : C'.drop 35 = (C'.drop 23).drop 12 := by rw [List.drop_drop]
  rw [e, List.take_append_drop, List.take_append_drop]
theorem TL.len (h : TL x C D base v rs) (ty : TypeId) (w' : World) : (Builtin.len_ #[75] ty #[v]).run Try.prog w' = .ok (.int .i64 rs.length) w' := by
  rcases h.2 with ⟨rfl, -⟩ | ⟨g, cap, cur, rfl, -⟩ <;> simp [Builtin.len_, run_underlying Try.underlying75, goInt]
/-- one of them, by its number -/
theorem TL.idx (h : TL x C D base v rs) (hD : Has x D) (k : IntKind) (j : Nat) (hp : rs[j]? = some p) :
    ∃ g o : Nat, (∀ w', (Instr.indexAt 75 v (.int k j)).run Try.prog w' = .ok (.pointer (some ⟨g, o, none⟩)) w') ∧ (rowW x D C t).cell? ⟨g, o, none⟩ = some (.int .u8 p.1.kind) ∧ (rowW x D C t).cell? ⟨g, o + 1, none⟩ = some (.int .u8 p.1.len) ∧ (rowW x D C t).cell? ⟨g, o + 2, none⟩ = some p.2 ∧
      (rowW x D C t).frozen? ⟨g, o + 1, none⟩ = false ∧ (rowW x D C t).frozen? ⟨g, o + 2, none⟩ = false ∧ ∃ off cap, v = .slice (some ⟨g, off, none⟩) rs.length cap ∧ o = off + j * 3 := by
  have hj := (List.getElem?_eq_some_iff.1 hp).1
  obtain ⟨i, hi, hs⟩ := Option.map_eq_some_iff.1 info_oT
  simp only [Prod.mk.injEq] at hs
  rcases h.2 with ⟨rfl, h2, h3⟩ | ⟨g, cap, cur, rfl, h2, h3, h4, h5, h6, h7⟩
  · obtain ⟨c0, c1, c2⟩ := h3.get hp
    refine ⟨D, 23 + j * 3, fun w' => ?_, (rowW_cell hD _).trans c0, (rowW_cell hD _).trans c1, (rowW_cell hD _).trans c2, rowW_frozen hD _, rowW_frozen hD _, _, _, rfl, rfl⟩
    simp [Instr.indexAt, run_underlying Try.underlying75, sizeOf, typeInfo, hi, hs.2.1, Addr.add_lit, asIntOf, hj]
  · obtain ⟨c0, c1, c2⟩ := h7.get hp
    have hc : ∀ q u, cur.toList[q]? = some u → (rowW x D C t).cell? ⟨g, q, none⟩ = some u := fun q u hu => by
      rw [rowW_cell_other h2, cell_of_row x g q cur _ (0, 0) h4, ← Array.getElem?_toList]; exact hu
    have hf : ∀ q, (rowW x D C t).frozen? ⟨g, q, none⟩ = false := fun q => by
      simp [World.frozen?, rowW_other h2, h4]
    refine ⟨g, 0 + j * 3, fun w' => ?_, hc _ _ c0, hc _ _ c1, hc _ _ c2, hf _, hf _, _, _, rfl, rfl⟩
    simp [Instr.indexAt, run_underlying Try.underlying75, sizeOf, typeInfo, hi, hs.2.1, Addr.add_lit, asIntOf, hj]
/-- the last one -/
theorem TP.last (h : TP x C D base v rs p g o) (hD : Has x D) (k : IntKind) :
    (∀ w', (Instr.indexAt 75 v (.int k rs.length)).run Try.prog w' = .ok (.pointer (some ⟨g, o, none⟩)) w') ∧ (rowW x D C t).cell? ⟨g, o, none⟩ = some (.int .u8 p.1.kind) ∧ (rowW x D C t).cell? ⟨g, o + 1, none⟩ = some (.int .u8 p.1.len) ∧ (rowW x D C t).cell? ⟨g, o + 2, none⟩ = some p.2 ∧
      (rowW x D C t).frozen? ⟨g, o + 1, none⟩ = false ∧ (rowW x D C t).frozen? ⟨g, o + 2, none⟩ = false := by
  obtain ⟨h1, off, cap, hv, ho⟩ := h
  obtain ⟨g', o', i1, i2, i3, i4, i5, i6, off', cap', hv', ho'⟩ := h1.idx (t := t) hD k rs.length (p := p) (by simp)
  rw [hv] at hv'
  obtain ⟨e1, -, -⟩ := Value.slice.inj hv'
  have e1 := Option.some.inj e1
  have e2 : g = g' := congrArg Addr.block e1
  have e3 : off = off' := congrArg Addr.off e1
  subst e2 e3
  obtain rfl : o' = o := by rw [ho, ho']
  exact ⟨i1, i2, i3, i4, i5, i6⟩
/-- a cell of the last one is set -/
theorem TP.set (h : TP x C D base v rs p g o) (p' : Opt × Value) (i : Nat) (u : Value) (he : ([.int .u8 p.1.kind, .int .u8 p.1.len, p.2] : List Value).set i u = [.int .u8 p'.1.kind, .int .u8 p'.1.len, p'.2]) (hi : i < 3)
    {wb : World} (hG : Gr wb x) (hb : base = wb.heap.size) (hD : Has x D) : ∃ x' C', (rowW x D C t).setCell ⟨g, o + i, none⟩ u = rowW x' D C' t ∧ Off23 C C' ∧ Has x' D ∧ Gr wb x' ∧ TP x' C' D base v rs p' g o := by
  obtain ⟨⟨hl, h1⟩, off, cap, rfl, rfl⟩ := h
  rcases h1 with ⟨hv, h2, h3⟩ | ⟨g', cap', cur, hv, h2, h3, h4, h5, h6, h7⟩
  · obtain ⟨e1, -, e4⟩ := Value.slice.inj hv
    have e1 := Option.some.inj e1
    obtain rfl : g = D := congrArg Addr.block e1
    obtain rfl : off = 23 := congrArg Addr.off e1
    subst e4
    simp only [List.length_append, List.length_cons, List.length_nil] at h2
    refine ⟨x, C.set (23 + rs.length * 3 + i) u, rowW_set _ _, set_off (by omega) (by omega), hD, hG, ⟨by simp [hl], .inl ⟨by simp, by simp; omega, h3.set p' i u he hi⟩⟩, 23, 4, rfl, rfl⟩
  · obtain ⟨e1, -, e4⟩ := Value.slice.inj hv
    have e1 := Option.some.inj e1
    obtain rfl : g = g' := congrArg Addr.block e1
    obtain rfl : off = 0 := congrArg Addr.off e1
    subst e4
    have hlt : g < x.heap.size := (Array.getElem?_eq_some_iff.1 h4).1
    have hvl := (Array.getElem?_eq_some_iff.1 h4).2
    have hh : (x.setCell ⟨g, 0 + rs.length * 3 + i, none⟩ u).heap[g]? = some (.cells (cur.setIfInBounds (0 + rs.length * 3 + i) u) 78 (0, 0)) := by
      simp only [World.setCell]
      rw [Array.getElem?_modify, if_pos rfl, h4]
      rfl
    have hgr : x.grownBy (x.setCell ⟨g, 0 + rs.length * 3 + i, none⟩ u) (some g) := by
      refine ⟨rfl, rfl, rfl, by simp [World.setCell], fun k hk hne => ?_⟩
      simp only [World.setCell]
      rw [Array.getElem?_modify, if_neg (fun e => hne (by rw [e]))]
    refine ⟨x.setCell ⟨g, 0 + rs.length * 3 + i, none⟩ u, C, rowW_set_other h2, Off23.refl C, ?_, hG.step hgr (by rw [← hb]; exact h3), ⟨hl, .inr ⟨g, cap, _, by simp, h2, h3, hh, by simpa using h5, by simpa using h6, ?_⟩⟩, 0, cap, rfl, rfl⟩
    · unfold Has; simp only [World.setCell, Array.size_modify]; exact hD
    · rw [Array.toList_setIfInBounds]
      exact h7.set p' i u he hi
/-- 'append' of one more -/
theorem TL.app {U wb : World} (h : TL x C D base v rs) (hU : Gr x U) (hG : Gr wb x) (hb : base = wb.heap.size) (hD : Has x D) (hn : rs.length ≤ 200) (b c : Nat) (p : Opt × Value)
    (h0 : (rowW U D C t).cell? ⟨b, 0, none⟩ = some (.int .u8 p.1.kind)) (h1 : (rowW U D C t).cell? ⟨b, 1, none⟩ = some (.int .u8 p.1.len)) (h2 : (rowW U D C t).cell? ⟨b, 2, none⟩ = some p.2) (o2 : p.2.oneCell' = true) (ty : TypeId) :
    ∃ v' x' C' g o, (Builtin.append_ #[75, 75] ty #[v, .slice (some ⟨b, 0, none⟩) 1 c]).run Try.prog (rowW U D C t) = .ok v' (rowW x' D C' t) ∧ Off23 C C' ∧ Has x' D ∧ Gr wb x' ∧ TP x' C' D base v' rs p g o := by
  obtain ⟨i, hi, hs⟩ := Option.map_eq_some_iff.1 info_oT
  simp only [Prod.mk.injEq] at hs
  obtain ⟨hs0, hs1, hs2⟩ := hs
  have hDU : Has U D := Nat.lt_of_lt_of_le hD hU.size
  have hTD := rowW_heap (cs := C) (e := t) hDU
  obtain ⟨hl, h3⟩ := h
  -- a list that has no room
  have grow : ∀ (g off cap : Nat), v = .slice (some ⟨g, off, none⟩) rs.length cap → cap = rs.length → (∀ j u, (recs .u8 .u8 rs)[j]? = some u → (rowW U D C t).cell? ((⟨g, off, none⟩ : Addr).add j) = some u) →
      ∃ v' x' C' g o, (Builtin.append_ #[75, 75] ty #[v, .slice (some ⟨b, 0, none⟩) 1 c]).run Try.prog (rowW U D C t) = .ok v' (rowW x' D C' t) ∧ Off23 C C' ∧ Has x' D ∧ Gr wb x' ∧ TP x' C' D base v' rs p g o := by
    intro g off cap hv hcap hold
    have hr := run_append_grow (P := Try.prog) (rowW U D C t) 75 ty 78 i _ Try.underlying75 hi hs0 ⟨g, off, none⟩ rs.length cap (recs .u8 .u8 rs) (by rw [hs1, recs_length]) hold ⟨b, 0, none⟩ 1 c [.int .u8 p.1.kind, .int .u8 p.1.len, p.2] (by rw [hs1]; rfl)
      (by
        intro j u hu
        have hj : j < 3 := by have := (List.getElem?_eq_some_iff.1 hu).1; simpa using this
        match j, hj with
        | 0, _ => simp at hu; subst hu; simpa [Addr.add_lit] using h0
        | 1, _ => simp at hu; subst hu; simpa [Addr.add_lit] using h1
        | 2, _ => simp at hu; subst hu; simpa [Addr.add_lit] using h2)
      (by omega) (by omega) (by
        rw [hs2]
        have : Builtin.nextslicecap (rs.length + 1) cap ≤ 1000000 := by
          unfold Builtin.nextslicecap
          rw [hcap]
          split
          · omega
          · rw [if_pos (by omega)]; omega
        omega)
    obtain ⟨cz, hcz⟩ : ∃ cz : Array Value, cz = ((recs .u8 .u8 rs).toArray ++ [Value.int .u8 p.1.kind, .int .u8 p.1.len, p.2].toArray ++ Builtin.zeroCells (Value.agg #[.int .u8 0, .int .u8 0, .slice none 0 0]).cells (grownCap (rowW U D C t) (rs.length + 1) cap 78 - (rs.length + 1))) := ⟨_, rfl⟩
    rw [rowW_drew, ← hcz, rowW_allocT (show Has U.drew D from hDU)] at hr
    have hgc := grownCap_ge (rowW U D C t) (rs.length + 1) cap 78
    have hws : (rowW U D C t).heap.size = U.drew.heap.size := rowW_size
    have hnew := heap_alloc_new U.drew (.cells cz 78)
    have hbU : base ≤ U.heap.size := by rw [hb]; exact (hG.trans hU).size
    rw [hv]
    refine ⟨_, _, C, _, 0 + rs.length * 3, hr, Off23.refl C, ?_, ?_, ⟨hl, .inr ⟨(rowW U D C t).heap.size, grownCap (rowW U D C t) (rs.length + 1) cap 78, cz, by simp, ?_, ?_, ?_, ?_, ?_, ?_⟩⟩, 0, _, rfl, rfl⟩
    · unfold Has; rw [World.size_alloc]; exact Nat.lt_succ_of_lt hDU
    · exact ((hG.trans hU).drew).alloc _
    · rw [hws]; have : D < U.drew.heap.size := hDU; omega
    · rw [hws]; exact hbU
    · rw [hws]; exact hnew
    · simpa using hgc
    · rw [hcz]
      simp only [Array.size_append, List.size_toArray, recs_length, List.length_cons, List.length_nil, size_zeroCells, Value.cells]
      simp
      omega
    · rw [hcz, show rs ++ [p] = rs ++ [(p.1, p.2)] from rfl]
      exact ⟨[], (Builtin.zeroCells (Value.agg #[.int .u8 0, .int .u8 0, .slice none 0 0]).cells (grownCap (rowW U D C t) (rs.length + 1) cap 78 - (rs.length + 1))).toList, by rw [recs_snoc]; simp, rfl⟩
  rcases h3 with ⟨rfl, h4, h5⟩ | ⟨g, cap, cur, rfl, h4, h5, h6, h7, h8, h9⟩
  · by_cases hr : rs.length < 4
    · have hrun := app_room (P := Try.prog) (w := rowW U D C t) 75 ty 78 i Try.underlying75 hi hs1 D 23 rs.length 4 C.toArray t hTD (by simp [hl]; omega) hr b c _ _ _ h0 h1 h2 rfl rfl o2
      refine ⟨_, U, _, D, 23 + rs.length * 3, hrun.trans (by rw [rowW_setRow]), h5.app_off _ _ _ hr hl, hDU, hG.trans hU, ⟨?_, .inl ⟨by simp, by simp; omega, h5.app p (by omega)⟩⟩, 23, 4, rfl, rfl⟩
      rw [(h5.app_off _ _ _ hr hl).1, hl]
    · exact grow D 23 4 rfl (by omega) (fun j u hu => by
        rw [Addr.add_lit, rowW_cell hDU]
        exact h5.at hu)
  · have h6' := heap_gr hU h6
    by_cases hr : rs.length < cap
    · have hrun := app_room (P := Try.prog) (w := rowW U D C t) 75 ty 78 i Try.underlying75 hi hs1 g 0 rs.length cap cur 78 (by rw [rowW_other h4]; exact h6') (by omega) hr b c _ _ _ h0 h1 h2 rfl rfl o2
      refine ⟨_, U.setRow g _, C, g, 0 + rs.length * 3, hrun.trans (by rw [rowW_setRow_other h4]), Off23.refl C, ?_, ?_, ⟨hl, .inr ⟨g, cap, _, by simp, h4, h5, setRow_heap U g cur _ _ _ h6', by simp; omega, ?_, ?_⟩⟩, 0, cap, rfl, rfl⟩
      · unfold Has; rw [setRow_size]; exact hDU
      · refine (hG.trans hU).step ⟨rfl, rfl, rfl, by rw [setRow_size]; exact Nat.le_refl _, fun k _ hk => setRow_other U g k _ (fun e => hk (by rw [e]))⟩ (by rw [← hb]; exact h5)
      · simp only [List.size_toArray, List.length_append, List.length_take, List.length_drop, Array.length_toList, List.length_cons, List.length_nil]; omega
      · exact h9.app p (by simp; omega)
    · exact grow g 0 cap rfl (by omega) (fun j u hu => by
        rw [Addr.add_lit, rowW_cell_other h4, cell_of_row U g _ cur _ (0, 0) h6', ← Array.getElem?_toList]
        exact h9.at hu)
end
theorem step_appT {ops : Array Oper} {w : World} {o : Oper} {a : Act} {K : Act → World → Prop} {Q : Exit → Act → World → Prop} {E : Prop} {x U wb : World} {C : List Value} {D base : Nat} {v : Value} {rs : List (Opt × Value)} {t : TypeId}
    (hgd : o.guard = none) (s0 x0 : Operand) (ho : o.op = .call { callee := .builtin .append, args := #[s0, x0], argTypes := #[75, 75] }) (hw : w = rowW U D C t) (hs0 : a.eval s0 = v)
    (h : TL x C D base v rs) (hU : Gr x U) (hG : Gr wb x) (hb : base = wb.heap.size) (hD : Has x D) (hn : rs.length ≤ 200) (b c : Nat) (p : Opt × Value) (hx0 : a.eval x0 = .slice (some ⟨b, 0, none⟩) 1 c)
    (h0 : w.cell? ⟨b, 0, none⟩ = some (.int .u8 p.1.kind)) (h1 : w.cell? ⟨b, 1, none⟩ = some (.int .u8 p.1.len)) (h2 : w.cell? ⟨b, 2, none⟩ = some p.2) (o2 : p.2.oneCell' = true)
    (hK : ∀ v' x' C' g q, Off23 C C' → Has x' D → Gr wb x' → TP x' C' D base v' rs p g q → K (a.put o.dst v') (rowW x' D C' t)) :
    if Region.wanted o (yielded ops a.tmps) = true then Oper.wp Try.prog o a w K Q else E := by
  have hw' : Region.wanted o (yielded ops a.tmps) = true := by simp [Region.wanted, hgd]
  rw [if_pos hw']
  subst hw
  obtain ⟨v', x', C', g, q, hr, h3, h4, h5, h6⟩ := h.app hU hG hb hD hn b c p h0 h1 h2 o2 o.type
  unfold Oper.wp execOp
  simp only [ho, resolve, invoke, builtin, Sem.run_bind, Sem.run_pure, Result.andThen_ok, List.map_toArray, List.map_cons, List.map_nil, hs0, hx0, hr]
  exact hK v' x' C' g q h3 h4 h5 h6
end Go.Proofs.Ytdpffedmgmllbaa
