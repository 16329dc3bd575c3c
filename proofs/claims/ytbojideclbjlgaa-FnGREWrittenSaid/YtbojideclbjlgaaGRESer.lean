/-
  A header of routing encapsulation, written: its bytes are bytes.
-/
import Derived.Test.YtbojideclbjlgaaSer
import Derived.Test.YtbojideclbjlgaaGREEnc
namespace Go.Proofs.Ytbojideclbjlgaa
open Go.RowKit

theorem ap_bytes {f : Bool} {l m : List Int} (hl : AllB l) (hm : AllB m) : AllB (ap f l m) := by
  cases f
  · exact hl
  · exact hl.append hm
theorem gsum_bytes {f : Bool} {l : List Int} (hl : AllB l) (x : Int) : AllB (gsum f l x) := by
  cases f
  · exact hl
  · refine AllB.flat fun y hy => ?_
    simp only [List.mem_cons, List.not_mem_nil, or_false] at hy
    rcases hy with rfl | rfl | rfl
    · exact hl
    · exact sh_bytes _
    · exact sh_bytes _
theorem gre_bytes (ve pr : Int) (s k q a : Bool) (su ky sq ak : Int) : AllB (gre ve pr s k q a su ky sq ak) := by
  refine ap_bytes (ap_bytes (ap_bytes (gsum_bytes (AllB.flat fun y hy => ?_) _) (lo_bytes _)) (lo_bytes _)) (lo_bytes _)
  simp only [List.mem_cons, List.not_mem_nil, or_false] at hy
  rcases hy with rfl | rfl
  · exact sh_bytes _
  · exact sh_bytes _
end Go.Proofs.Ytbojideclbjlgaa
