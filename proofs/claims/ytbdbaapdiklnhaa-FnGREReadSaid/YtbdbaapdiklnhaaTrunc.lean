/-
  The feedback that feels nothing: SetTruncated.
-/
import Derived.Test.YtbdbaapdiklnhaaBase
namespace Go.Proofs.Ytbdbaapdiklnhaa
open Go.RowKit

theorem trunc_method (w : World) : (method 329 179 (.agg #[]) "SetTruncated").run Try.prog w = .ok (120, .agg #[]) w := by kernel_rfl

set_option maxHeartbeats 400000 in
theorem trunc_calls (w : World) : Calls Try.prog 120 #[.agg #[]] w fun e w' => e = .returned (.tuple #[]) ∧ Gr w w' := by
  go_enter Try.func120, Try.ntmps120
  go_wp2
  go_end0
  exact ⟨rfl, (Gr.refl w).alloc _⟩
end Go.Proofs.Ytbdbaapdiklnhaa
