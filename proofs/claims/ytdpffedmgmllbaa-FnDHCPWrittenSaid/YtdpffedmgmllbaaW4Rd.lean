/-
  A list of options that is only read.
-/
import Derived.Test.YtdpffedmgmllbaaOptsSpec
import Derived.Test.YtdpffedmgmllbaaOptsB
import Derived.Test.YtdpffedmgmllbaaRecs2
import Derived.Test.YtdpffedmgmllbaaIP4H
namespace Go.Proofs.Ytdpffedmgmllbaa
open Go.RowKit

/-- A list of options that is only read: neither its row nor what each holds lies in a block that is written. -/
def RdO (q1 q2 : IntKind) (w : World) (v : Value) (rs : List (Opt × Value)) (bad : Nat → Prop) : Prop :=
  (v = .slice none 0 0 ∧ rs = []) ∨ ∃ g c, v = .slice (some ⟨g, 0, none⟩) rs.length c ∧ ¬ bad g ∧ ∀ j p, rs[j]? = some p → w.cell? ⟨g, j * 3, none⟩ = some (.int q1 p.1.kind) ∧ w.cell? ⟨g, j * 3 + 1, none⟩ = some (.int q2 p.1.len) ∧ w.cell? ⟨g, j * 3 + 2, none⟩ = some p.2 ∧ IsB w p.2 p.1.data ∧ ∀ k, bad k → Aside p.2 p.1.data k

theorem cell_lt {w : World} {g o : Nat} {u : Value} (h : w.cell? ⟨g, o, none⟩ = some u) : g < w.heap.size := by
  rcases Nat.lt_or_ge g w.heap.size with h' | h'
  · exact h'
  · have hn : w.heap[g]? = none := Array.getElem?_eq_none h'
    simp [World.cell?, hn] at h
theorem IsB.keepB {w w' : World} {v : Value} {l : List Int} {bad : Nat → Prop} (h : IsB w v l) (hk : ∀ j, j < w.heap.size → ¬ bad j → w'.heap[j]? = w.heap[j]?) (hA : ∀ k, bad k → Aside v l k) : IsB w' v l := by
  obtain ⟨a, c, rfl, h1, h2, h3, h4⟩ := h
  refine ⟨a, c, rfl, h1, h2, h3, ?_⟩
  rcases h4 with h4 | ⟨ad, rfl, h5⟩
  · exact .inl h4
  · refine .inr ⟨ad, rfl, fun i hi => ⟨(h5 i hi).1, ?_⟩⟩
    have hc := (h5 i hi).2
    have hnb : ¬ bad ad.block := fun hb => by
      rcases hA _ hb with rfl | hne
      · simp at hi
      · exact hne (by simp [Value.ownBlock])
    have hlt : ad.block < w.heap.size := by
      rcases Nat.lt_or_ge ad.block w.heap.size with h | h
      · exact h
      · have hn : w.heap[ad.block]? = none := Array.getElem?_eq_none h
        simp [World.cell?, hn] at hc
    rw [← hc]
    simp only [World.cell?, hk _ hlt hnb]
theorem RdO.keep {q1 q2 : IntKind} {w w' : World} {v : Value} {rs : List (Opt × Value)} {bad : Nat → Prop} (h : RdO q1 q2 w v rs bad) (hk : ∀ j, j < w.heap.size → ¬ bad j → w'.heap[j]? = w.heap[j]?) : RdO q1 q2 w' v rs bad := by
  rcases h with h | ⟨g, c, rfl, hb, h⟩
  · exact .inl h
  · refine .inr ⟨g, c, rfl, hb, fun j p hp => ?_⟩
    obtain ⟨c0, c1, c2, hI, hA⟩ := h j p hp
    have e := hk g (cell_lt c0) hb
    have e' : ∀ o, w'.cell? ⟨g, o, none⟩ = w.cell? ⟨g, o, none⟩ := fun o => by simp only [World.cell?, e]
    exact ⟨(e' _).trans c0, (e' _).trans c1, (e' _).trans c2, hI.keepB hk hA, hA⟩
theorem RdO.gr {q1 q2 : IntKind} {w w' : World} {v : Value} {rs : List (Opt × Value)} {bad : Nat → Prop} (h : RdO q1 q2 w v rs bad) (hg : Gr w w') : RdO q1 q2 w' v rs bad :=
  h.keep fun j hj _ => hg.block j hj (by simp)
theorem RdO.len {q1 q2 : IntKind} {w : World} {v : Value} {rs : List (Opt × Value)} {bad : Nat → Prop} (h : RdO q1 q2 w v rs bad) {P : Program} (t e : TypeId) (ht : P.underlying t = some (.slice e)) (ty : TypeId) (w' : World) : (Builtin.len_ #[t] ty #[v]).run P w' = .ok (.int .i64 rs.length) w' := by
  rcases h with ⟨rfl, rfl⟩ | ⟨g, c, rfl, -⟩ <;> simp [Builtin.len_, run_underlying ht, goInt]
theorem RdO.idx {q1 q2 : IntKind} {w : World} {v : Value} {rs : List (Opt × Value)} {bad : Nat → Prop} (h : RdO q1 q2 w v rs bad) {P : Program} (t e : TypeId) (ht : P.underlying t = some (.slice e)) (hsz : (P.info? e).map (·.size) = some 3) (k : IntKind) (j : Nat) (p : Opt × Value) (hp : rs[j]? = some p) :
    ∃ g o : Nat, (∀ w', (Instr.indexAt t v (.int k j)).run P w' = .ok (.pointer (some ⟨g, o, none⟩)) w') ∧ ¬ bad g ∧ w.cell? ⟨g, o, none⟩ = some (.int q1 p.1.kind) ∧ w.cell? ⟨g, o + 1, none⟩ = some (.int q2 p.1.len) ∧ w.cell? ⟨g, o + 2, none⟩ = some p.2 ∧ IsB w p.2 p.1.data ∧ ∀ k, bad k → Aside p.2 p.1.data k := by
  have hj := (List.getElem?_eq_some_iff.1 hp).1
  rcases h with ⟨rfl, rfl⟩ | ⟨g, c, rfl, hb, h⟩
  · simp at hp
  · obtain ⟨i, hi, hs⟩ := Option.map_eq_some_iff.1 hsz
    obtain ⟨c0, c1, c2, hI, hA⟩ := h j p hp
    refine ⟨g, j * 3, fun w' => ?_, hb, c0, c1, c2, hI, hA⟩
    simp [Instr.indexAt, run_underlying ht, sizeOf, typeInfo, hi, hs, Addr.add_lit, asIntOf, hj]
theorem OwnO.rd {q1 q2 : IntKind} {w : World} {base : Nat} {e : TypeId} {D : Nat} {v : Value} {rs : List (Opt × Value)} {bad : Nat → Prop} (h : OwnO q1 q2 w base e D v rs) (hb : ∀ k, bad k → k < base) (hA : ∀ p ∈ rs, ∀ k, bad k → Aside p.2 p.1.data k) : RdO q1 q2 w v rs bad := by
  rcases h.slice with h' | ⟨g, c, rfl, hg, -⟩
  · exact .inl h'
  · exact .inr ⟨g, c, rfl, fun hx => by have := hb _ hx; omega, fun j p hp => by
      obtain ⟨a0, a1, a2, a3, -⟩ := h.at j p hp
      exact ⟨a0, a1, a2, a3, hA p (List.mem_of_getElem? hp)⟩⟩

/-- how many bytes an option takes, as a number -/
theorem raw_take_le {os : List Opt} (hok : ∀ x ∈ os, OkOpt x) {k : Nat} (hk : k < os.length) : (os.getD k Opt.zero).len ≤ ((optsRaw os).length : Int) - ((optsRaw (os.take k)).length : Int) ∧ (((optsRaw (os.take (k + 1))).length : Int) = ((optsRaw (os.take k)).length : Int) + (os.getD k Opt.zero).len) := by
  have h1 := raw_snoc hk
  have h2 := raw_le os (k + 1)
  have hm : os.getD k Opt.zero ∈ os := by rw [List.getD_eq_getElem?_getD, List.getElem?_eq_getElem hk]; exact List.getElem_mem hk
  obtain ⟨x, hx⟩ : ∃ x, x = os.getD k Opt.zero := ⟨_, rfl⟩
  rw [← hx] at h1 hm ⊢
  have h3 := hok x hm
  rw [h1, List.length_append] at h2 ⊢
  have h4 : ((optB x).length : Int) = x.len := by
    rcases h3 with ⟨⟨k1, k2, k3⟩ | ⟨k1, k2⟩, -, -⟩
    · simp [optB, k1, k2]
    · simp only [optB, if_neg k1, List.length_append, List.length_cons, List.length_nil]; omega
  omega

theorem len_raw : ∀ os : List Opt, os.length ≤ (optsRaw os).length
  | [] => Nat.zero_le _
  | x :: r => by
    have h := len_raw r
    have e : optsRaw (x :: r) = optB x ++ optsRaw r := by simp [optsRaw]
    have h1 : 1 ≤ (optB x).length := by unfold optB; split <;> simp
    rw [e, List.length_append, List.length_cons]
    omega

end Go.Proofs.Ytdpffedmgmllbaa
