/-
  The addresses of the sixth version are in order.
-/
import Derived.Test.YtdpffedmgmllbaaIP6Cp
namespace Go.Proofs.Ytdpffedmgmllbaa
open Go.RowKit

set_option maxHeartbeats 400000 in
theorem check6_calls (a : Option Addr) (n c : Nat) (w : World) (hn : n = 16) : Calls Try.prog 128 #[.slice a n c] w fun e w' => e = .returned .nilIface ∧ w = w' := by
  subst hn
  have g := fun ty w' => (show (Builtin.len_ #[103] ty #[.slice a 16 c]).run Try.prog w' = .ok (.int .i64 16) w' by simp [Builtin.len_, run_underlying Try.underlying103, goInt])
  go_enter Try.func128, Try.ntmps128
  go_wp2
  go_ret
  exact ⟨rfl, rfl⟩
set_option maxHeartbeats 400000 in
theorem to16_calls (V : Nat) (sa da : Option Addr) (sc dc : Nat) (w : World) (h1 : w.cell? ⟨V, 8, none⟩ = some (.slice sa 16 sc)) (h2 : w.cell? ⟨V, 9, none⟩ = some (.slice da 16 dc)) : Calls Try.prog 123 #[.pointer (some ⟨V, 0, none⟩)] w fun e w' => e = .returned .nilIface ∧ w = w' := by
  go_enter Try.func123, Try.ntmps123
  go_wp2_with (first | (go_at_call 128; refine (check6_calls _ _ _ _ rfl).mono ?_; rintro e w9 ⟨rfl, rfl⟩))
  go_ret
  exact ⟨rfl, rfl⟩
end Go.Proofs.Ytdpffedmgmllbaa
