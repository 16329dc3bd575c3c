/-
  'append' of bytes to a slice of the call's own.
-/
import Derived.Test.YtdhilikbmeffkaaDoorBase
import Derived.Test.YtdhilikbmeffkaaDoorLib4
import Derived.Maps.AppendAt
import Derived.Deep.RegionHeld3
namespace Go.Proofs.YtdhilikbmeffkaaDoor
open Go.RowKit

/-- 'append(s, x...)' of bytes: s is the call's own; x reads as bytes; and where the new slice lies. -/
theorem run_appB {P : Program} {w : World} (t ty : TypeId) (ht : P.underlying t = some (.slice 5)) (hinf : (P.info? 5).map (fun i => (i.zero, i.size, i.bytes)) = some (some (.int .u8 0), 1, 1))
    (base : Nat) (v v2 : Value) (l m : List Int) (hown : Own w base v l) (hm : IsB w v2 m) (hlen : l.length + m.length ≤ 140737488355328) (hbase : base ≤ w.heap.size) :
    ∃ v' w', (Builtin.append_ #[t, t] ty #[v, v2]).run P w = .ok v' w' ∧ Own w' base v' (l ++ m) ∧ w.grownBy w' v.ownBlock ∧ (v'.ownBlock = v.ownBlock ∨ v'.ownBlock = some w.heap.size) := by
  obtain ⟨i, hi, hz0, hz1, hz2⟩ := info_parts hinf
  have hb2 := hm.bytes
  obtain ⟨ad, c, rfl, h1, h2, h3, h4⟩ := hm
  rcases h4 with ⟨rfl, rfl⟩ | ⟨ad, rfl, h5⟩
  · have hl0 : m = [] := List.eq_nil_of_length_eq_zero (by omega)
    subst hl0
    have hrun := run_append_owned_none (P := P) (w := w) base t ty 5 i 1 ht hi v l.length (bcells l) hown.1
    exact ⟨v, w, hrun, by simpa using hown, World.grownBy.refl w _, .inl rfl⟩
  · obtain ⟨v', w', r0, r1, r2, -, r4⟩ := run_append_own_at (P := P) (w := w) base t ty 5 i (.int .u8 0) 1 1 ht hi hz0 hz1 hz2 rfl (by decide) v l.length (bcells l) hown.1 ad m.length c (bcells m) (by simp [bcells]) (bcells_at h5) (bcells_one m) (by unfold maxLen; omega) (by omega) hbase
    refine ⟨v', w', r0, ⟨?_, hown.2.append hb2⟩, r2, r4⟩
    have e : bcells l ++ bcells m = bcells (l ++ m) := by simp [bcells]
    rw [List.length_append, ← e]
    exact r1

theorem wp_appB {P : Program} {w : World} {o : Oper} {a : Act} {K : Act → World → Prop} {Q : Exit → Act → World → Prop} (s x : Operand) (t : TypeId)
    (ho : o.op = .call { callee := .builtin .append, args := #[s, x], argTypes := #[t, t] }) (ht : P.underlying t = some (.slice 5)) (hinf : (P.info? 5).map (fun i => (i.zero, i.size, i.bytes)) = some (some (.int .u8 0), 1, 1))
    (base : Nat) (v v2 : Value) (l m : List Int) (hs : a.eval s = v) (hown : Own w base v l) (hx : a.eval x = v2) (hm : IsB w v2 m) (hlen : l.length + m.length ≤ 140737488355328) (hbase : base ≤ w.heap.size)
    (h : ∀ v' w', Own w' base v' (l ++ m) → w.grownBy w' v.ownBlock → (v'.ownBlock = v.ownBlock ∨ v'.ownBlock = some w.heap.size) → K (a.put o.dst v') w') : Oper.wp P o a w K Q := by
  obtain ⟨v', w', hr, h2, h3, h4⟩ := run_appB (P := P) t o.type ht hinf base v v2 l m hown hm hlen hbase
  unfold Oper.wp execOp
  simp only [ho, resolve, invoke, builtin, Sem.run_bind, Sem.run_pure, Result.andThen_ok, List.map_toArray, List.map_cons, List.map_nil, hs, hx, hr]
  exact h v' w' h2 h3 h4

theorem wpList_appB2 {P : Program} {w : World} {ops : Array Oper} {rest : List Oper} {o : Oper} {a : Act} {Q : Exit → Act → World → Prop} (hgd : o.guard = none) (s x : Operand) (t : TypeId)
    (ho : o.op = .call { callee := .builtin .append, args := #[s, x], argTypes := #[t, t] }) (ht : P.underlying t = some (.slice 5)) (hinf : (P.info? 5).map (fun i => (i.zero, i.size, i.bytes)) = some (some (.int .u8 0), 1, 1))
    (base : Nat) (v v2 : Value) (l m : List Int) (hs : a.eval s = v) (hown : Own w base v l) (hx : a.eval x = v2) (hm : IsB w v2 m) (hlen : l.length + m.length ≤ 140737488355328) (hbase : base ≤ w.heap.size)
    (h : ∀ v' w', Own w' base v' (l ++ m) → w.grownBy w' v.ownBlock → (v'.ownBlock = v.ownBlock ∨ v'.ownBlock = some w.heap.size) → wpList P ops Q rest (a.put o.dst v') w') : wpList P ops Q (o :: rest) a w :=
  wpList_plain hgd fun _ hK => wp_appB s x t ho ht hinf base v v2 l m hs hown hx hm hlen hbase fun v' w' h1 h2 h3 => hK _ _ (h v' w' h1 h2 h3)

theorem step_appB {P : Program} {w : World} {ops : Array Oper} {o : Oper} {a : Act} {K : Act → World → Prop} {Q : Exit → Act → World → Prop} {E : Prop} (hgd : o.guard = none) (s x : Operand) (t : TypeId)
    (ho : o.op = .call { callee := .builtin .append, args := #[s, x], argTypes := #[t, t] }) (ht : P.underlying t = some (.slice 5)) (hinf : (P.info? 5).map (fun i => (i.zero, i.size, i.bytes)) = some (some (.int .u8 0), 1, 1))
    (base : Nat) (v v2 : Value) (l m : List Int) (hs : a.eval s = v) (hown : Own w base v l) (hx : a.eval x = v2) (hm : IsB w v2 m) (hlen : l.length + m.length ≤ 140737488355328) (hbase : base ≤ w.heap.size)
    (h : ∀ v' w', Own w' base v' (l ++ m) → w.grownBy w' v.ownBlock → (v'.ownBlock = v.ownBlock ∨ v'.ownBlock = some w.heap.size) → K (a.put o.dst v') w') :
    if Region.wanted o (yielded ops a.tmps) = true then Oper.wp P o a w K Q else E := by
  have hw : Region.wanted o (yielded ops a.tmps) = true := by simp [Region.wanted, hgd]
  rw [if_pos hw]
  exact wp_appB s x t ho ht hinf base v v2 l m hs hown hx hm hlen hbase h

theorem own_far {v v' : Value} {H B : Nat} (h : v'.ownBlock = v.ownBlock ∨ v'.ownBlock = some H) (h1 : v.ownBlock ≠ some B) (h2 : H ≠ B) : v'.ownBlock ≠ some B := by
  intro e
  rcases h with h | h
  · exact h1 (h.symm.trans e)
  · exact h2 (Option.some.inj (h.symm.trans e))

theorem lit1 (w : World) (x : Int) (hx : 0 ≤ x ∧ x ≤ 255) : IsB (w.alloc (.cells #[.int .u8 x] 5)) (.slice (some ⟨w.heap.size, 0, none⟩) 1 1) [x] :=
  (own_lit w [x] (by intro q hq; simp at hq; subst hq; exact hx) (by simp [maxLen])).isB

theorem lit1_at (w : World) (x : Int) (b : Nat) (hb : b = w.heap.size) (hx : 0 ≤ x ∧ x ≤ 255) : IsB (w.alloc (.cells #[.int .u8 x] 5)) (.slice (some ⟨b, 0, none⟩) 1 1) [x] := by
  subst hb; exact lit1 w x hx

end Go.Proofs.YtdhilikbmeffkaaDoor
