/-
  A list of options of the call's own: its length, and one of it by its number.
-/
import Derived.Test.YtdpffedmgmllbaaRecs
namespace Go.Proofs.Ytdpffedmgmllbaa
open Go.RowKit

/-- how long it is -/
theorem OwnO.len {q1 q2 : IntKind} {w : World} {base : Nat} {e : TypeId} {D : Nat} {v : Value} {rs : List (Opt × Value)} (h : OwnO q1 q2 w base e D v rs) {P : Program} (t : TypeId) (ht : P.underlying t = some (.slice e)) (ty : TypeId) (w' : World) : (Builtin.len_ #[t] ty #[v]).run P w' = .ok (.int .i64 rs.length) w' := by
  rcases h.1.2 with ⟨rfl, hn⟩ | ⟨g, cap, cur, rfl, -⟩
  · rw [List.eq_nil_of_length_eq_zero hn]
    simp [Builtin.len_, run_underlying ht, goInt]
  · simp [Builtin.len_, run_underlying ht, goInt]
/-- one of it, by its number -/
theorem OwnO.idx {q1 q2 : IntKind} {w : World} {base : Nat} {e : TypeId} {D : Nat} {v : Value} {rs : List (Opt × Value)} (h : OwnO q1 q2 w base e D v rs) {P : Program} (t : TypeId) (ht : P.underlying t = some (.slice e)) (hsz : (P.info? e).map (·.size) = some 3) (k : IntKind) (j : Nat) (p : Opt × Value) (hp : rs[j]? = some p) :
    ∃ g o : Nat, (∀ w', (Instr.indexAt t v (.int k j)).run P w' = .ok (.pointer (some ⟨g, o, none⟩)) w') ∧ w.cell? ⟨g, o, none⟩ = some (.int q1 p.1.kind) ∧ w.cell? ⟨g, o + 1, none⟩ = some (.int q2 p.1.len) ∧ w.cell? ⟨g, o + 2, none⟩ = some p.2 ∧ IsB w p.2 p.1.data ∧ g < w.heap.size ∧ base ≤ g := by
  have hj := (List.getElem?_eq_some_iff.1 hp).1
  rcases h.1.2 with ⟨rfl, hn⟩ | ⟨g, cap, cur, rfl, hb, hg, -⟩
  · omega
  · obtain ⟨c0, c1, c2, hI, -⟩ := h.at j p hp
    obtain ⟨i, hi, hs⟩ := Option.map_eq_some_iff.1 hsz
    refine ⟨g, j * 3, fun w' => ?_, c0, c1, c2, hI, (Array.getElem?_eq_some_iff.1 hg).1, hb⟩
    simp [Instr.indexAt, run_underlying ht, sizeOf, typeInfo, hi, hs, Addr.add_lit, asIntOf, hj]

end Go.Proofs.Ytdpffedmgmllbaa
