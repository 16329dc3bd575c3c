/-
  A list of records of the call's own: rows of z cells, as 'rc' tells them.
-/
import Derived.Test.YtdhilikbmeffkaaDoorRecsD
namespace Go.Proofs.YtdhilikbmeffkaaDoor
open Go.RowKit

/-- the cells of records, one behind the other -/
def recsG (rc : Opt × Value → List Value) (rs : List (Opt × Value)) : List Value := (rs.map rc).flatten
theorem recsG_snoc (rc : Opt × Value → List Value) (rs : List (Opt × Value)) (p : Opt × Value) : recsG rc (rs ++ [p]) = recsG rc rs ++ rc p := by simp [recsG]
theorem recsG_length {rc : Opt × Value → List Value} {z : Nat} (hz : ∀ p, (rc p).length = z) : ∀ rs : List (Opt × Value), (recsG rc rs).length = rs.length * z
  | [] => by simp [recsG]
  | a :: r => by
    have h := recsG_length hz r
    have e : recsG rc (a :: r) = rc a ++ recsG rc r := by simp [recsG]
    rw [e, List.length_append, h, hz a, List.length_cons, Nat.add_mul]
    omega
theorem recsG_get {rc : Opt × Value → List Value} {z : Nat} (hz : ∀ p, (rc p).length = z) : ∀ (rs : List (Opt × Value)) (j : Nat) (p : Opt × Value) (i : Nat) (u : Value), rs[j]? = some p → (rc p)[i]? = some u → (recsG rc rs)[j * z + i]? = some u
  | [], j, p, i, u, h, _ => by simp at h
  | a :: r, 0, p, i, u, h, hu => by
    simp at h; subst h
    have e : recsG rc (a :: r) = rc a ++ recsG rc r := by simp [recsG]
    have hi := (List.getElem?_eq_some_iff.1 hu).1
    rw [e, Nat.zero_mul, Nat.zero_add, List.getElem?_append_left hi, hu]
  | a :: r, j + 1, p, i, u, h, hu => by
    have ih := recsG_get hz r j p i u (by simpa using h) hu
    have e : recsG rc (a :: r) = rc a ++ recsG rc r := by simp [recsG]
    have hza := hz a
    rw [e, Nat.add_mul, Nat.one_mul, List.getElem?_append_right (by omega), hza, show j * z + z + i - z = j * z + i by omega, ih]

/-- The call's own list of records; what each holds lies neither in the list's row nor in the block D. -/
def OwnG (rc : Opt × Value → List Value) (z : Nat) (w : World) (base : Nat) (e : TypeId) (D : Nat) (v : Value) (rs : List (Opt × Value)) : Prop :=
  w.ownsRow base e z v rs.length (recsG rc rs) ∧ ∀ p ∈ rs, IsB w p.2 p.1.data ∧ Aside p.2 p.1.data D ∧ ∀ k, v.ownBlock = some k → Aside p.2 p.1.data k

section
variable {rc : Opt × Value → List Value} {z : Nat} {w w' : World} {base : Nat} {e : TypeId} {D : Nat} {v : Value} {rs : List (Opt × Value)}
theorem OwnG.nil : OwnG rc z w base e D (.slice none 0 0) [] := ⟨World.ownsRow_nil _ _ _ _, fun p hp => by simp at hp⟩
theorem OwnG.fresh (h : OwnG rc z w base e D v rs) : ∀ k, v.ownBlock = some k → base ≤ k ∧ k < w.heap.size := fun k hk => h.1.lt k hk
theorem OwnG.gr (h : OwnG rc z w base e D v rs) (hg : Gr w w') : OwnG rc z w' base e D v rs :=
  ⟨h.1.kept hg (by cases e : v.ownBlock <;> simp), fun p hp => ⟨(h.2 p hp).1.gr hg, (h.2 p hp).2⟩⟩
theorem OwnG.turn (h : OwnG rc z w base e D v rs) (hg : w.grownBy w' (some D)) (hD : D < base) : OwnG rc z w' base e D v rs := by
  refine ⟨h.1.kept hg ?_, fun p hp => ⟨(h.2 p hp).1.keptE hg (h.2 p hp).2.1, (h.2 p hp).2⟩⟩
  right
  intro e
  have := (h.fresh D e).1
  omega
theorem OwnG.reRow {cs cs' : List Value} {t : TypeId} (h : OwnG rc z (rowW w D cs t) base e D v rs) (hD : D < base) : OwnG rc z (rowW w D cs' t) base e D v rs :=
  h.turn (rowW_rowW (n := 0)) hD
theorem OwnG.len (h : OwnG rc z w base e D v rs) {P : Program} (t : TypeId) (ht : P.underlying t = some (.slice e)) (ty : TypeId) (w' : World) : (Builtin.len_ #[t] ty #[v]).run P w' = .ok (.int .i64 rs.length) w' := by
  rcases h.1.2 with ⟨rfl, hn⟩ | ⟨g, cap, cur, rfl, -⟩
  · rw [hn]
    simp [Builtin.len_, run_underlying ht, goInt]
  · simp [Builtin.len_, run_underlying ht, goInt]
/-- one of it, by its number -/
theorem OwnG.idx (h : OwnG rc z w base e D v rs) {P : Program} (hz : ∀ p, (rc p).length = z) (t : TypeId) (ht : P.underlying t = some (.slice e)) (hsz : (P.info? e).map (·.size) = some z) (k : IntKind) (j : Nat) (p : Opt × Value) (hp : rs[j]? = some p) :
    ∃ g o : Nat, (∀ w', (Instr.indexAt t v (.int k j)).run P w' = .ok (.pointer (some ⟨g, o, none⟩)) w') ∧ (∀ i u, (rc p)[i]? = some u → w.cell? ⟨g, o + i, none⟩ = some u) ∧ IsB w p.2 p.1.data ∧ g < w.heap.size ∧ base ≤ g := by
  have hj := (List.getElem?_eq_some_iff.1 hp).1
  rcases h.1.2 with ⟨rfl, hn⟩ | ⟨g, cap, cur, rfl, hb, hg, -⟩
  · omega
  · obtain ⟨i, hi, hs⟩ := Option.map_eq_some_iff.1 hsz
    have hc := h.1.cells (g := g) rfl
    refine ⟨g, j * z, fun w' => ?_, fun i u hu => ?_, (h.2 p (List.mem_of_getElem? hp)).1, (Array.getElem?_eq_some_iff.1 hg).1, hb⟩
    · simp [Instr.indexAt, run_underlying ht, sizeOf, typeInfo, hi, hs, Addr.add_lit, asIntOf, hj]
    · simpa [Addr.add_lit] using hc _ _ (recsG_get hz rs j p i u hp hu)
theorem OwnG.slice (h : OwnG rc z w base e D v rs) : (v = .slice none 0 0 ∧ rs = []) ∨ ∃ g c, v = .slice (some ⟨g, 0, none⟩) rs.length c ∧ base ≤ g ∧ g < w.heap.size := by
  rcases h.1.2 with ⟨rfl, hn⟩ | ⟨g, cap, cur, rfl, hb, hg, -⟩
  · exact .inl ⟨rfl, List.eq_nil_of_length_eq_zero hn⟩
  · exact .inr ⟨g, cap, rfl, hb, (Array.getElem?_eq_some_iff.1 hg).1⟩
theorem OwnG.slice_pos (h : OwnG rc z w base e D v rs) (hp : rs ≠ []) : ∃ g n c, v = .slice (some ⟨g, 0, none⟩) n c ∧ base ≤ g := by
  rcases h.slice with ⟨-, h⟩ | ⟨g, c, h1, h2, -⟩
  · exact absurd h hp
  · exact ⟨g, _, c, h1, h2⟩
theorem OwnG.other {D' : Nat} (h : OwnG rc z w base e D v rs) (hD : ∀ p ∈ rs, Aside p.2 p.1.data D') : OwnG rc z w base e D' v rs :=
  ⟨h.1, fun p hp => ⟨(h.2 p hp).1, hD p hp, (h.2 p hp).2.2⟩⟩
end

/-- 'append(s, x)' of one option -/
theorem run_appG {P : Program} {rc : Opt × Value → List Value} {z : Nat} {w : World} (t ty e : TypeId) (ht : P.underlying t = some (.slice e)) (z0 : Value) (B : Nat) (hinf : (P.info? e).map (fun i => (i.zero, i.size, i.bytes)) = some (some z0, z, B)) (hz : z0.cells.size = z) (hz0 : 0 < z) (hrz : ∀ p, (rc p).length = z) (hB : B ≤ 100)
    (base D : Nat) (v : Value) (rs : List (Opt × Value)) (hown : OwnG rc z w base e D v rs) (b c : Nat) (x : Opt) (s : Value)
    (hcl : ∀ i u, (rc (x, s))[i]? = some u → w.cell? ⟨b, i, none⟩ = some u) (hone : ∀ u ∈ rc (x, s), u.oneCell' = true)
    (hs : IsB w s x.data) (hsD : Aside s x.data D) (hsv : ∀ k, v.ownBlock = some k → Aside s x.data k) (hlen : rs.length ≤ 1000000000) (hbase : base ≤ w.heap.size) :
    ∃ v' w', (Builtin.append_ #[t, t] ty #[v, .slice (some ⟨b, 0, none⟩) 1 c]).run P w = .ok v' w' ∧ OwnG rc z w' base e D v' (rs ++ [(x, s)]) ∧ w.grownBy w' v.ownBlock ∧ (v'.ownBlock = v.ownBlock ∨ v'.ownBlock = some w.heap.size) := by
  obtain ⟨i, hi, hie⟩ := Option.map_eq_some_iff.1 hinf
  simp only [Prod.mk.injEq] at hie
  obtain ⟨hi0, hi1, hi2⟩ := hie
  obtain ⟨v', w', r0, r1, r2, -, r4⟩ := run_append_own_at (P := P) (w := w) base t ty e i z0 z B ht hi hi0 hi1 hi2 hz hz0 v rs.length (recsG rc rs) hown.1 ⟨b, 0, none⟩ 1 c (rc (x, s)) (by rw [hrz, Nat.one_mul])
    (by
      intro j u hu
      simpa [Addr.add_lit] using hcl j u hu)
    hone (by unfold maxLen; omega)
    (by
      have : (rs.length + 1) * B ≤ 1000000001 * 100 := Nat.mul_le_mul (by omega) hB
      omega) hbase
  refine ⟨v', w', r0, ⟨by rw [recsG_snoc, List.length_append]; exact r1, ?_⟩, r2, r4⟩
  have keep : ∀ {s : Value} {l : List Int}, IsB w s l → (∀ k, v.ownBlock = some k → Aside s l k) → IsB w' s l := by
    intro s l hI hA
    cases hv : v.ownBlock with
    | none => rw [hv] at r2; exact hI.gr r2
    | some k => rw [hv] at r2; exact hI.keptE r2 (hA k hv)
  have far : ∀ {s : Value} {l : List Int}, IsB w s l → (∀ k, v.ownBlock = some k → Aside s l k) → ∀ k, v'.ownBlock = some k → Aside s l k := by
    intro s l hI hA k hk
    rcases r4 with r4 | r4
    · exact hA k (r4 ▸ hk)
    · have : w.heap.size = k := Option.some.inj (r4.symm.trans hk)
      exact hI.aside (by omega)
  intro p hp
  rcases List.mem_append.1 hp with hp | hp
  · obtain ⟨p1, p2, p3⟩ := hown.2 p hp
    exact ⟨keep p1 p3, p2, far p1 p3⟩
  · simp at hp
    subst hp
    exact ⟨keep hs hsv, hsD, far hs hsv⟩

section
variable {P : Program} {rc : Opt × Value → List Value} {z : Nat} {w : World} {o : Oper} {a : Act} {Q : Exit → Act → World → Prop}

theorem wp_appG {K : Act → World → Prop} (s0 x0 : Operand) (t e : TypeId) (ho : o.op = .call { callee := .builtin .append, args := #[s0, x0], argTypes := #[t, t] }) (ht : P.underlying t = some (.slice e)) (z0 : Value) (B : Nat)
    (hinf : (P.info? e).map (fun i => (i.zero, i.size, i.bytes)) = some (some z0, z, B)) (hz : z0.cells.size = z) (hz0 : 0 < z) (hrz : ∀ p, (rc p).length = z) (hB : B ≤ 100)
    (base D : Nat) (v : Value) (rs : List (Opt × Value)) (hs0 : a.eval s0 = v) (hown : OwnG rc z w base e D v rs) (b c : Nat) (x : Opt) (s : Value) (hx0 : a.eval x0 = .slice (some ⟨b, 0, none⟩) 1 c)
    (hcl : ∀ i u, (rc (x, s))[i]? = some u → w.cell? ⟨b, i, none⟩ = some u) (hone : ∀ u ∈ rc (x, s), u.oneCell' = true)
    (hs : IsB w s x.data) (hsD : Aside s x.data D) (hsv : ∀ k, v.ownBlock = some k → Aside s x.data k) (hlen : rs.length ≤ 1000000000) (hbase : base ≤ w.heap.size)
    (h : ∀ v' w', OwnG rc z w' base e D v' (rs ++ [(x, s)]) → w.grownBy w' v.ownBlock → (v'.ownBlock = v.ownBlock ∨ v'.ownBlock = some w.heap.size) → K (a.put o.dst v') w') : Oper.wp P o a w K Q := by
  obtain ⟨v', w', hr, h2, h3, h4⟩ := run_appG (P := P) t o.type e ht z0 B hinf hz hz0 hrz hB base D v rs hown b c x s hcl hone hs hsD hsv hlen hbase
  unfold Oper.wp execOp
  simp only [ho, resolve, invoke, builtin, Sem.run_bind, Sem.run_pure, Result.andThen_ok, List.map_toArray, List.map_cons, List.map_nil, hs0, hx0, hr]
  exact h v' w' h2 h3 h4

theorem wpList_appG {ops : Array Oper} {rest : List Oper} (hgd : o.guard = none) (s0 x0 : Operand) (t e : TypeId) (ho : o.op = .call { callee := .builtin .append, args := #[s0, x0], argTypes := #[t, t] }) (ht : P.underlying t = some (.slice e)) (z0 : Value) (B : Nat)
    (hinf : (P.info? e).map (fun i => (i.zero, i.size, i.bytes)) = some (some z0, z, B)) (hz : z0.cells.size = z) (hz0 : 0 < z) (hrz : ∀ p, (rc p).length = z) (hB : B ≤ 100)
    (base D : Nat) (v : Value) (rs : List (Opt × Value)) (hs0 : a.eval s0 = v) (hown : OwnG rc z w base e D v rs) (b c : Nat) (x : Opt) (s : Value) (hx0 : a.eval x0 = .slice (some ⟨b, 0, none⟩) 1 c)
    (hcl : ∀ i u, (rc (x, s))[i]? = some u → w.cell? ⟨b, i, none⟩ = some u) (hone : ∀ u ∈ rc (x, s), u.oneCell' = true)
    (hs : IsB w s x.data) (hsD : Aside s x.data D) (hsv : ∀ k, v.ownBlock = some k → Aside s x.data k) (hlen : rs.length ≤ 1000000000) (hbase : base ≤ w.heap.size)
    (h : ∀ v' w', OwnG rc z w' base e D v' (rs ++ [(x, s)]) → w.grownBy w' v.ownBlock → (v'.ownBlock = v.ownBlock ∨ v'.ownBlock = some w.heap.size) → wpList P ops Q rest (a.put o.dst v') w') : wpList P ops Q (o :: rest) a w :=
  wpList_plain hgd fun _ hK => wp_appG s0 x0 t e ho ht z0 B hinf hz hz0 hrz hB base D v rs hs0 hown b c x s hx0 hcl hone hs hsD hsv hlen hbase fun v' w' g1 g2 g3 => hK _ _ (h v' w' g1 g2 g3)

theorem step_appG {ops : Array Oper} {K : Act → World → Prop} {E : Prop} (hgd : o.guard = none) (s0 x0 : Operand) (t e : TypeId) (ho : o.op = .call { callee := .builtin .append, args := #[s0, x0], argTypes := #[t, t] }) (ht : P.underlying t = some (.slice e)) (z0 : Value) (B : Nat)
    (hinf : (P.info? e).map (fun i => (i.zero, i.size, i.bytes)) = some (some z0, z, B)) (hz : z0.cells.size = z) (hz0 : 0 < z) (hrz : ∀ p, (rc p).length = z) (hB : B ≤ 100)
    (base D : Nat) (v : Value) (rs : List (Opt × Value)) (hs0 : a.eval s0 = v) (hown : OwnG rc z w base e D v rs) (b c : Nat) (x : Opt) (s : Value) (hx0 : a.eval x0 = .slice (some ⟨b, 0, none⟩) 1 c)
    (hcl : ∀ i u, (rc (x, s))[i]? = some u → w.cell? ⟨b, i, none⟩ = some u) (hone : ∀ u ∈ rc (x, s), u.oneCell' = true)
    (hs : IsB w s x.data) (hsD : Aside s x.data D) (hsv : ∀ k, v.ownBlock = some k → Aside s x.data k) (hlen : rs.length ≤ 1000000000) (hbase : base ≤ w.heap.size)
    (h : ∀ v' w', OwnG rc z w' base e D v' (rs ++ [(x, s)]) → w.grownBy w' v.ownBlock → (v'.ownBlock = v.ownBlock ∨ v'.ownBlock = some w.heap.size) → K (a.put o.dst v') w') :
    if Region.wanted o (yielded ops a.tmps) = true then Oper.wp P o a w K Q else E := by
  have hw : Region.wanted o (yielded ops a.tmps) = true := by simp [Region.wanted, hgd]
  rw [if_pos hw]
  exact wp_appG s0 x0 t e ho ht z0 B hinf hz hz0 hrz hB base D v rs hs0 hown b c x s hx0 hcl hone hs hsD hsv hlen hbase h
end


end Go.Proofs.YtdhilikbmeffkaaDoor
