/-
  The feedback that feels nothing: SetTruncated.
-/
import Derived.Test.YtdhilikbmeffkaaDoorBase
namespace Go.Proofs.YtdhilikbmeffkaaDoor
open Go.RowKit

theorem trunc_method (w : World) : (method 250 104 (.agg #[]) "SetTruncated").run Tryd.prog w = .ok (68, .agg #[]) w := by kernel_rfl

set_option maxHeartbeats 400000 in
theorem trunc_calls (w : World) : Calls Tryd.prog 68 #[.agg #[]] w fun e w' => e = .returned (.tuple #[]) ∧ Gr w w' := by
  go_enter Tryd.func68, Tryd.ntmps68
  go_wp2
  go_end0
  exact ⟨rfl, (Gr.refl w).alloc _⟩
end Go.Proofs.YtdhilikbmeffkaaDoor
