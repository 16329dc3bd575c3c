/-
  The feedback that feels nothing: SetTruncated.
-/
import Derived.Test.YtdpffedmgmllbaaBase
namespace Go.Proofs.Ytdpffedmgmllbaa
open Go.RowKit

theorem trunc_method (w : World) : (method 333 156 (.agg #[]) "SetTruncated").run Try.prog w = .ok (114, .agg #[]) w := by kernel_rfl

set_option maxHeartbeats 400000 in
theorem trunc_calls (w : World) : Calls Try.prog 114 #[.agg #[]] w fun e w' => e = .returned (.tuple #[]) ∧ Gr w w' := by
  go_enter Try.func114, Try.ntmps114
  go_wp2
  go_end0
  exact ⟨rfl, (Gr.refl w).alloc _⟩
end Go.Proofs.Ytdpffedmgmllbaa
