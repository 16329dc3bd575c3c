/-
  The feedback that feels nothing: SetTruncated.
-/
import Derived.Test.YtoopkfnkmaaieaaBase
namespace Go.Proofs.Ytoopkfnkmaaieaa
open Go.RowKit

theorem trunc_method (w : World) : (method 307 156 (.agg #[]) "SetTruncated").run Try.prog w = .ok (115, .agg #[]) w := by kernel_rfl

set_option maxHeartbeats 400000 in
theorem trunc_calls (w : World) : Calls Try.prog 115 #[.agg #[]] w fun e w' => e = .returned (.tuple #[]) ∧ Gr w w' := by
  go_enter Try.func115, Try.ntmps115
  go_wp2
  go_end0
  exact ⟨rfl, (Gr.refl w).alloc _⟩
end Go.Proofs.Ytoopkfnkmaaieaa
