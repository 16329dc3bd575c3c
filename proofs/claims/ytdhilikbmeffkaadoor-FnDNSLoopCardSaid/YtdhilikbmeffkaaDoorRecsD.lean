/-
  Lists of options of three cells each, in memory of the call's own: how they are kept, and how they grow.
-/
import Derived.Test.YtdhilikbmeffkaaDoorOptsD
import Derived.Test.YtdhilikbmeffkaaDoorLib4
import Derived.Maps.AppendAt
namespace Go.Proofs.YtdhilikbmeffkaaDoor
open Go.RowKit

/-- what reads as these bytes does not lie in the block k, or there are none -/
def Aside (s : Value) (l : List Int) (k : Nat) : Prop := l = [] ∨ s.ownBlock ≠ some k

theorem IsB.keptE {w w' : World} {s : Value} {l : List Int} {k : Nat} (h : IsB w s l) (hg : w.grownBy w' (some k)) (ha : Aside s l k) : IsB w' s l := by
  rcases ha with rfl | ha
  · obtain ⟨a, c, rfl, h1, h2, h3, h4⟩ := h
    refine ⟨a, c, rfl, h1, h2, h3, ?_⟩
    rcases h4 with h4 | ⟨ad, rfl, h5⟩
    · exact .inl h4
    · exact .inr ⟨ad, rfl, fun i hi => absurd hi (by simp)⟩
  · exact h.kept hg (.inr ha)
theorem IsB.aside {w : World} {s : Value} {l : List Int} {k : Nat} (h : IsB w s l) (hk : w.heap.size ≤ k) : Aside s l k := by
  cases hl : l with
  | nil => exact .inl rfl
  | cons x r =>
    refine .inr fun e => ?_
    obtain ⟨a, c, rfl, h1, h2, h3, h4⟩ := h
    rcases h4 with ⟨rfl, -⟩ | ⟨ad, rfl, h5⟩
    · simp [Value.ownBlock] at e
    · have hc := (h5 0 (by rw [hl]; simp)).2
      have e' : ad.block = k := by simpa [Value.ownBlock] using e
      have : w.heap[ad.block]? = none := Array.getElem?_eq_none (by omega)
      simp [World.cell?, this] at hc
theorem Own.aside {w : World} {base : Nat} {s : Value} {l : List Int} {k : Nat} (h : Own w base s l) (hk : k < base) : Aside s l k := .inr (h.other hk)

/-- the cells of options, one behind the other -/
def recs (q1 q2 : IntKind) (rs : List (Opt × Value)) : List Value := (rs.map fun p => [Value.int q1 p.1.kind, .int q2 p.1.len, p.2]).flatten
theorem recs_snoc (q1 q2 : IntKind) (rs : List (Opt × Value)) (x : Opt) (s : Value) : recs q1 q2 (rs ++ [(x, s)]) = recs q1 q2 rs ++ [.int q1 x.kind, .int q2 x.len, s] := by simp [recs]
theorem recs_length (q1 q2 : IntKind) (rs : List (Opt × Value)) : (recs q1 q2 rs).length = rs.length * 3 := by
  induction rs with
  | nil => rfl
  | cons a r ih => 
    have : (recs q1 q2 (a :: r)) = [Value.int q1 a.1.kind, .int q2 a.1.len, a.2] ++ recs q1 q2 r := by simp [recs]
    rw [this, List.length_append, ih]
    simp; omega
theorem recs_get (q1 q2 : IntKind) : ∀ (rs : List (Opt × Value)) (j : Nat) (p : Opt × Value), rs[j]? = some p →
    (recs q1 q2 rs)[j * 3]? = some (.int q1 p.1.kind) ∧ (recs q1 q2 rs)[j * 3 + 1]? = some (.int q2 p.1.len) ∧ (recs q1 q2 rs)[j * 3 + 2]? = some p.2
  | [], j, p, h => by simp at h
  | a :: r, 0, p, h => by
    simp at h; subst h
    simp [recs]
  | a :: r, j + 1, p, h => by
    have := recs_get q1 q2 r j p (by simpa using h)
    have e : (recs q1 q2 (a :: r)) = Value.int q1 a.1.kind :: .int q2 a.1.len :: a.2 :: recs q1 q2 r := by simp [recs]
    rw [e, show (j + 1) * 3 = j * 3 + 3 by omega, show j * 3 + 3 + 1 = j * 3 + 1 + 3 by omega, show j * 3 + 3 + 2 = j * 3 + 2 + 3 by omega]
    simpa using this

/-- The call's own list of options: rows of three cells; what each holds lies neither in the list's row nor in the block D. -/
def OwnO (q1 q2 : IntKind) (w : World) (base : Nat) (e : TypeId) (D : Nat) (v : Value) (rs : List (Opt × Value)) : Prop :=
  w.ownsRow base e 3 v rs.length (recs q1 q2 rs) ∧ ∀ p ∈ rs, IsB w p.2 p.1.data ∧ Aside p.2 p.1.data D ∧ ∀ k, v.ownBlock = some k → Aside p.2 p.1.data k

theorem OwnO.nil {q1 q2 : IntKind} {w : World} {base : Nat} {e : TypeId} {D : Nat} : OwnO q1 q2 w base e D (.slice none 0 0) [] := ⟨World.ownsRow_nil _ _ _ _, fun p hp => by simp at hp⟩
theorem OwnO.fresh {q1 q2 : IntKind} {w : World} {base : Nat} {e : TypeId} {D : Nat} {v : Value} {rs : List (Opt × Value)} (h : OwnO q1 q2 w base e D v rs) : ∀ k, v.ownBlock = some k → base ≤ k ∧ k < w.heap.size := fun k hk => h.1.lt k hk
theorem OwnO.gr {q1 q2 : IntKind} {w w' : World} {base : Nat} {e : TypeId} {D : Nat} {v : Value} {rs : List (Opt × Value)} (h : OwnO q1 q2 w base e D v rs) (hg : Gr w w') : OwnO q1 q2 w' base e D v rs :=
  ⟨h.1.kept hg (by cases e : v.ownBlock <;> simp), fun p hp => ⟨(h.2 p hp).1.gr hg, (h.2 p hp).2⟩⟩
theorem OwnO.turn {q1 q2 : IntKind} {w w' : World} {base : Nat} {e : TypeId} {D : Nat} {v : Value} {rs : List (Opt × Value)} (h : OwnO q1 q2 w base e D v rs) (hg : w.grownBy w' (some D)) (hD : D < base) : OwnO q1 q2 w' base e D v rs := by
  refine ⟨h.1.kept hg ?_, fun p hp => ⟨(h.2 p hp).1.keptE hg (h.2 p hp).2.1, (h.2 p hp).2⟩⟩
  right
  intro e
  have := (h.fresh D e).1
  omega
theorem OwnO.reRow {q1 q2 : IntKind} {w : World} {base : Nat} {e : TypeId} {D : Nat} {v : Value} {rs : List (Opt × Value)} {cs cs' : List Value} {t : TypeId} (h : OwnO q1 q2 (rowW w D cs t) base e D v rs) (hD : D < base) : OwnO q1 q2 (rowW w D cs' t) base e D v rs :=
  h.turn (rowW_rowW (n := 0)) hD

/-- 'append(s, x)' of one option -/
theorem run_appR {P : Program} {q1 q2 : IntKind} {w : World} (t ty e : TypeId) (ht : P.underlying t = some (.slice e)) (z : Value) (B : Nat) (hinf : (P.info? e).map (fun i => (i.zero, i.size, i.bytes)) = some (some z, 3, B)) (hz : z.cells.size = 3) (hB : B ≤ 100)
    (base D : Nat) (v : Value) (rs : List (Opt × Value)) (hown : OwnO q1 q2 w base e D v rs) (b c : Nat) (x : Opt) (s : Value)
    (h0 : w.cell? ⟨b, 0, none⟩ = some (.int q1 x.kind)) (h1 : w.cell? ⟨b, 1, none⟩ = some (.int q2 x.len)) (h2 : w.cell? ⟨b, 2, none⟩ = some s)
    (hs : IsB w s x.data) (hsD : Aside s x.data D) (hsv : ∀ k, v.ownBlock = some k → Aside s x.data k) (hlen : rs.length ≤ 1000000000) (hbase : base ≤ w.heap.size) :
    ∃ v' w', (Builtin.append_ #[t, t] ty #[v, .slice (some ⟨b, 0, none⟩) 1 c]).run P w = .ok v' w' ∧ OwnO q1 q2 w' base e D v' (rs ++ [(x, s)]) ∧ w.grownBy w' v.ownBlock ∧ (v'.ownBlock = v.ownBlock ∨ v'.ownBlock = some w.heap.size) := by
  obtain ⟨i, hi, hie⟩ := Option.map_eq_some_iff.1 hinf
  simp only [Prod.mk.injEq] at hie
  obtain ⟨hi0, hi1, hi2⟩ := hie
  obtain ⟨sa, sc, rfl, -⟩ := id hs
  obtain ⟨v', w', r0, r1, r2, -, r4⟩ := run_append_own_at (P := P) (w := w) base t ty e i z 3 B ht hi hi0 hi1 hi2 hz (by decide) v rs.length (recs q1 q2 rs) hown.1 ⟨b, 0, none⟩ 1 c [.int q1 x.kind, .int q2 x.len, .slice sa x.data.length sc] (by simp)
    (by
      intro j u hu
      have hj : j < 3 := by have := (List.getElem?_eq_some_iff.1 hu).1; simpa using this
      match j, hj with
      | 0, _ => simp at hu; subst hu; simpa [Addr.add_lit] using h0
      | 1, _ => simp at hu; subst hu; simpa [Addr.add_lit] using h1
      | 2, _ => simp at hu; subst hu; simpa [Addr.add_lit] using h2)
    (by intro u hu; simp at hu; rcases hu with rfl | rfl | rfl <;> rfl) (by unfold maxLen; omega)
    (by
      have : (rs.length + 1) * B ≤ 1000000001 * 100 := Nat.mul_le_mul (by omega) hB
      omega) hbase
  refine ⟨v', w', r0, ⟨by rw [recs_snoc, List.length_append]; exact r1, ?_⟩, r2, r4⟩
  have keep : ∀ {s : Value} {l : List Int}, IsB w s l → (∀ k, v.ownBlock = some k → Aside s l k) → IsB w' s l := by
    intro s l hI hA
    cases hv : v.ownBlock with
    | none => rw [hv] at r2; exact hI.gr r2
    | some k => rw [hv] at r2; exact hI.keptE r2 (hA k hv)
  have far : ∀ {s : Value} {l : List Int}, IsB w s l → (∀ k, v.ownBlock = some k → Aside s l k) → ∀ k, v'.ownBlock = some k → Aside s l k := by
    intro s l hI hA k hk
    rcases r4 with r4 | r4
    · exact hA k (r4 ▸ hk)
    · have : w.heap.size = k := Option.some.inj (r4.symm.trans hk)
      exact hI.aside (by omega)
  intro p hp
  rcases List.mem_append.1 hp with hp | hp
  · obtain ⟨p1, p2, p3⟩ := hown.2 p hp
    exact ⟨keep p1 p3, p2, far p1 p3⟩
  · simp at hp
    subst hp
    exact ⟨keep hs hsv, hsD, far hs hsv⟩

section
variable {P : Program} {q1 q2 : IntKind} {w : World} {o : Oper} {a : Act} {Q : Exit → Act → World → Prop}

theorem wp_appR {K : Act → World → Prop} (s0 x0 : Operand) (t e : TypeId) (ho : o.op = .call { callee := .builtin .append, args := #[s0, x0], argTypes := #[t, t] }) (ht : P.underlying t = some (.slice e)) (z : Value) (B : Nat)
    (hinf : (P.info? e).map (fun i => (i.zero, i.size, i.bytes)) = some (some z, 3, B)) (hz : z.cells.size = 3) (hB : B ≤ 100)
    (base D : Nat) (v : Value) (rs : List (Opt × Value)) (hs0 : a.eval s0 = v) (hown : OwnO q1 q2 w base e D v rs) (b c : Nat) (x : Opt) (s : Value) (hx0 : a.eval x0 = .slice (some ⟨b, 0, none⟩) 1 c)
    (h0 : w.cell? ⟨b, 0, none⟩ = some (.int q1 x.kind)) (h1 : w.cell? ⟨b, 1, none⟩ = some (.int q2 x.len)) (h2 : w.cell? ⟨b, 2, none⟩ = some s)
    (hs : IsB w s x.data) (hsD : Aside s x.data D) (hsv : ∀ k, v.ownBlock = some k → Aside s x.data k) (hlen : rs.length ≤ 1000000000) (hbase : base ≤ w.heap.size)
    (h : ∀ v' w', OwnO q1 q2 w' base e D v' (rs ++ [(x, s)]) → w.grownBy w' v.ownBlock → (v'.ownBlock = v.ownBlock ∨ v'.ownBlock = some w.heap.size) → K (a.put o.dst v') w') : Oper.wp P o a w K Q := by
  obtain ⟨v', w', hr, h2, h3, h4⟩ := run_appR (P := P) t o.type e ht z B hinf hz hB base D v rs hown b c x s h0 h1 h2 hs hsD hsv hlen hbase
  unfold Oper.wp execOp
  simp only [ho, resolve, invoke, builtin, Sem.run_bind, Sem.run_pure, Result.andThen_ok, List.map_toArray, List.map_cons, List.map_nil, hs0, hx0, hr]
  exact h v' w' h2 h3 h4

theorem wpList_appR {ops : Array Oper} {rest : List Oper} (hgd : o.guard = none) (s0 x0 : Operand) (t e : TypeId) (ho : o.op = .call { callee := .builtin .append, args := #[s0, x0], argTypes := #[t, t] }) (ht : P.underlying t = some (.slice e)) (z : Value) (B : Nat)
    (hinf : (P.info? e).map (fun i => (i.zero, i.size, i.bytes)) = some (some z, 3, B)) (hz : z.cells.size = 3) (hB : B ≤ 100)
    (base D : Nat) (v : Value) (rs : List (Opt × Value)) (hs0 : a.eval s0 = v) (hown : OwnO q1 q2 w base e D v rs) (b c : Nat) (x : Opt) (s : Value) (hx0 : a.eval x0 = .slice (some ⟨b, 0, none⟩) 1 c)
    (h0 : w.cell? ⟨b, 0, none⟩ = some (.int q1 x.kind)) (h1 : w.cell? ⟨b, 1, none⟩ = some (.int q2 x.len)) (h2 : w.cell? ⟨b, 2, none⟩ = some s)
    (hs : IsB w s x.data) (hsD : Aside s x.data D) (hsv : ∀ k, v.ownBlock = some k → Aside s x.data k) (hlen : rs.length ≤ 1000000000) (hbase : base ≤ w.heap.size)
    (h : ∀ v' w', OwnO q1 q2 w' base e D v' (rs ++ [(x, s)]) → w.grownBy w' v.ownBlock → (v'.ownBlock = v.ownBlock ∨ v'.ownBlock = some w.heap.size) → wpList P ops Q rest (a.put o.dst v') w') : wpList P ops Q (o :: rest) a w :=
  wpList_plain hgd fun _ hK => wp_appR s0 x0 t e ho ht z B hinf hz hB base D v rs hs0 hown b c x s hx0 h0 h1 h2 hs hsD hsv hlen hbase fun v' w' g1 g2 g3 => hK _ _ (h v' w' g1 g2 g3)

theorem step_appR {ops : Array Oper} {K : Act → World → Prop} {E : Prop} (hgd : o.guard = none) (s0 x0 : Operand) (t e : TypeId) (ho : o.op = .call { callee := .builtin .append, args := #[s0, x0], argTypes := #[t, t] }) (ht : P.underlying t = some (.slice e)) (z : Value) (B : Nat)
    (hinf : (P.info? e).map (fun i => (i.zero, i.size, i.bytes)) = some (some z, 3, B)) (hz : z.cells.size = 3) (hB : B ≤ 100)
    (base D : Nat) (v : Value) (rs : List (Opt × Value)) (hs0 : a.eval s0 = v) (hown : OwnO q1 q2 w base e D v rs) (b c : Nat) (x : Opt) (s : Value) (hx0 : a.eval x0 = .slice (some ⟨b, 0, none⟩) 1 c)
    (h0 : w.cell? ⟨b, 0, none⟩ = some (.int q1 x.kind)) (h1 : w.cell? ⟨b, 1, none⟩ = some (.int q2 x.len)) (h2 : w.cell? ⟨b, 2, none⟩ = some s)
    (hs : IsB w s x.data) (hsD : Aside s x.data D) (hsv : ∀ k, v.ownBlock = some k → Aside s x.data k) (hlen : rs.length ≤ 1000000000) (hbase : base ≤ w.heap.size)
    (h : ∀ v' w', OwnO q1 q2 w' base e D v' (rs ++ [(x, s)]) → w.grownBy w' v.ownBlock → (v'.ownBlock = v.ownBlock ∨ v'.ownBlock = some w.heap.size) → K (a.put o.dst v') w') :
    if Region.wanted o (yielded ops a.tmps) = true then Oper.wp P o a w K Q else E := by
  have hw : Region.wanted o (yielded ops a.tmps) = true := by simp [Region.wanted, hgd]
  rw [if_pos hw]
  exact wp_appR s0 x0 t e ho ht z B hinf hz hB base D v rs hs0 hown b c x s hx0 h0 h1 h2 hs hsD hsv hlen hbase h
end

theorem wp_loadc {P : Program} {w : World} {o : Oper} {a : Act} {K : Act → World → Prop} {Q : Exit → Act → World → Prop} (ty : TypeId) (x : Operand) (ho : o.op = .load ty x) (b off : Nat) (hx : a.eval x = .pointer (some ⟨b, off, none⟩)) (v : Value) (e : TypeId)
    (hu : P.underlying ty = some (.slice e)) (hc : w.cell? ⟨b, off, none⟩ = some v) (h : K (a.put o.dst v) w) : Oper.wp P o a w K Q := by
  have hagg : (isAgg ty).run P w = .ok false w := by
    unfold isAgg
    rw [Sem.run_bind, run_underlying hu w]
    simp
  have hl : (load ⟨b, off, none⟩).run P w = .ok v w := by simp [hc]
  unfold Oper.wp execOp
  simp only [ho, hx, Instr.loadAt, Instr.sureAddr, Sem.run_bind, Sem.run_pure, Result.andThen_ok, loadVar, hagg, hl, Bool.false_eq_true, if_false]
  exact h
theorem step_loadc {P : Program} {w : World} {ops : Array Oper} {o : Oper} {a : Act} {K : Act → World → Prop} {Q : Exit → Act → World → Prop} {E : Prop} (hgd : o.guard = none) (ty : TypeId) (x : Operand) (ho : o.op = .load ty x) (b off : Nat) (hx : a.eval x = .pointer (some ⟨b, off, none⟩)) (v : Value) (e : TypeId)
    (hu : P.underlying ty = some (.slice e)) (hc : w.cell? ⟨b, off, none⟩ = some v) (h : K (a.put o.dst v) w) : if Region.wanted o (yielded ops a.tmps) = true then Oper.wp P o a w K Q else E := by
  have hw : Region.wanted o (yielded ops a.tmps) = true := by simp [Region.wanted, hgd]
  rw [if_pos hw]
  exact wp_loadc ty x ho b off hx v e hu hc h

/-- the list as one that is read: its cells -/
theorem OwnO.at {q1 q2 : IntKind} {w : World} {base : Nat} {e : TypeId} {D : Nat} {g n c : Nat} {rs : List (Opt × Value)} (h : OwnO q1 q2 w base e D (.slice (some ⟨g, 0, none⟩) n c) rs) (j : Nat) (p : Opt × Value) (hp : rs[j]? = some p) :
    w.cell? ⟨g, j * 3, none⟩ = some (.int q1 p.1.kind) ∧ w.cell? ⟨g, j * 3 + 1, none⟩ = some (.int q2 p.1.len) ∧ w.cell? ⟨g, j * 3 + 2, none⟩ = some p.2 ∧ IsB w p.2 p.1.data ∧ Aside p.2 p.1.data D := by
  obtain ⟨h1, h2, h3⟩ := recs_get q1 q2 rs j p hp
  have hc := h.1.cells (g := g) rfl
  have hm := h.2 p (List.mem_of_getElem? hp)
  refine ⟨?_, ?_, ?_, hm.1, hm.2.1⟩
  · simpa [Addr.add_lit] using hc _ _ h1
  · simpa [Addr.add_lit] using hc _ _ h2
  · simpa [Addr.add_lit] using hc _ _ h3
theorem OwnO.slice {q1 q2 : IntKind} {w : World} {base : Nat} {e : TypeId} {D : Nat} {v : Value} {rs : List (Opt × Value)} (h : OwnO q1 q2 w base e D v rs) :
    (v = .slice none 0 0 ∧ rs = []) ∨ ∃ g c, v = .slice (some ⟨g, 0, none⟩) rs.length c ∧ base ≤ g ∧ g < w.heap.size ∧ rs.length ≤ c ∧ c ≤ maxLen := by
  rcases h.1.2 with ⟨rfl, hn⟩ | ⟨g, cap, cur, rfl, hb, hg, h1, h2, -⟩
  · exact .inl ⟨rfl, List.eq_nil_of_length_eq_zero hn⟩
  · exact .inr ⟨g, cap, rfl, hb, (Array.getElem?_eq_some_iff.1 hg).1, h1, h2⟩
theorem OwnO.slice_pos {q1 q2 : IntKind} {w : World} {base : Nat} {e : TypeId} {D : Nat} {v : Value} {rs : List (Opt × Value)} (h : OwnO q1 q2 w base e D v rs) (hp : rs ≠ []) : ∃ g n c, v = .slice (some ⟨g, 0, none⟩) n c ∧ base ≤ g := by
  rcases h.slice with ⟨-, h⟩ | ⟨g, c, h1, h2, -⟩
  · exact absurd h hp
  · exact ⟨g, _, c, h1, h2⟩
/-- numbers of 64 bits: it reads as options -/
theorem OwnO.isOpts {w : World} {base : Nat} {e : TypeId} {D : Nat} {v : Value} {rs : List (Opt × Value)} (h : OwnO .i64 .i64 w base e D v rs) (hw : ∀ p ∈ rs, (Lit.int .i64 p.1.kind).wf = true ∧ (Lit.int .i64 p.1.len).wf = true) : IsOpts w v (rs.map Prod.fst) := by
  rcases h.slice with ⟨rfl, rfl⟩ | ⟨g, c, rfl, -, -, h1, h2⟩
  · exact isOpts_nil
  · refine ⟨some ⟨g, 0, none⟩, c, by rw [List.length_map], by rw [List.length_map]; exact h1, h2, .inr ⟨_, rfl, fun i x hx => ⟨rfl, ?_⟩⟩⟩
    rw [List.getElem?_map] at hx
    obtain ⟨p, hp, rfl⟩ := Option.map_eq_some_iff.1 hx
    obtain ⟨a0, a1, a2, a3, -⟩ := h.at i p hp
    have hm := hw p (List.mem_of_getElem? hp)
    obtain ⟨a, n, c', hsl⟩ : ∃ a n c', p.2 = .slice a n c' := by obtain ⟨a, c', e, -⟩ := a3; exact ⟨_, _, _, e⟩
    refine ⟨hm.1, hm.2, by simpa using a0, by simpa using a1, a, n, c', ?_, ?_⟩
    · rw [← hsl]; simpa using a2
    · rw [← hsl]; exact a3

end Go.Proofs.YtdhilikbmeffkaaDoor
