/-
  Options of the call's own, read back.
-/
import Derived.Test.YtoopkfnkmaaieaaNbPlain
namespace Go.Proofs.Ytoopkfnkmaaieaa
open Go.RowKit

theorem ownU_isOpts {w : World} {base D : Nat} {v : Value} {rs : List (Opt × Value)} {os : List Opt} (h : OwnO .i64 .i64 w base 98 D v rs) (e : rs.map Prod.fst = os.map outU) (hok : ∀ x ∈ os, UOk x) : IsOpts w v (os.map outU) := by
  rw [← e]
  refine h.isOpts (fun p hp => ?_)
  have hmm : p.1 ∈ os.map outU := by rw [← e]; exact List.mem_map_of_mem hp
  obtain ⟨y, hy, hye⟩ := List.mem_map.1 hmm
  obtain ⟨⟨h1, h2⟩, -, -⟩ := hok y hy
  rw [← hye]
  show (Lit.int .i64 y.kind).wf = true ∧ (Lit.int .i64 0).wf = true
  exact ⟨WalkArith.wf_i64 (by omega), by decide⟩

end Go.Proofs.Ytoopkfnkmaaieaa
