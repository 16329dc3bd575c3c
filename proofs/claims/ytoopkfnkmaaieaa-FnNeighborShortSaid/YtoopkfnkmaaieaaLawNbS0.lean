/-
  So many bytes as there are, or fewer.
-/
import Derived.Test.YtoopkfnkmaaieaaLawNb0
namespace Go.Proofs.Ytoopkfnkmaaieaa
open Go.RowKit

def shorterN (l : List Int) (k : Int) : Bool := decide (0 ≤ k) && decide (k < (l.length : Int))

set_option maxRecDepth 100000 in
set_option maxHeartbeats 1000000 in
theorem shorterN_calls (a : Option Addr) (n c : Nat) (k : Int) (l : List Int) (w : World) (h : IsB w (.slice a n c) l) :
    Calls Try.prog 22 #[.slice a n c, .int .i64 k] w fun e w' => e = .returned (.bool (shorterN l k)) ∧ Gr w w' := by
  have g0 := fun ty => h.len (P := Try.prog) 25 ty 5 Try.underlying25
  by_cases hc0 : 0 ≤ k
  case neg =>
    have hd0 := decide_eq_false hc0
    go_enter Try.func22, Try.ntmps22
    go_wp2_with (fail)
    go_ret
    exact ⟨by simp [shorterN, hd0], (by (repeat (with_reducible first | exact Gr.refl _ | assumption | refine Gr.alloc ?_ _ | refine Gr.drew ?_ | refine Gr.drewN ?_ _ | refine Gr.trans ?_ (by assumption))); done)⟩
  case pos =>
    have hd0 := decide_eq_true hc0
    by_cases hc1 : k < (l.length : Int)
    case neg =>
      have hd1 := decide_eq_false hc1
      go_enter Try.func22, Try.ntmps22
      go_wp2_with (fail)
      go_ret
      exact ⟨by simp [shorterN, hd0, hd1], (by (repeat (with_reducible first | exact Gr.refl _ | assumption | refine Gr.alloc ?_ _ | refine Gr.drew ?_ | refine Gr.drewN ?_ _ | refine Gr.trans ?_ (by assumption))); done)⟩
    case pos =>
      have hd1 := decide_eq_true hc1
      go_enter Try.func22, Try.ntmps22
      go_wp2_with (fail)
      go_ret
      exact ⟨by simp [shorterN, hd0, hd1], (by (repeat (with_reducible first | exact Gr.refl _ | assumption | refine Gr.alloc ?_ _ | refine Gr.drew ?_ | refine Gr.drewN ?_ _ | refine Gr.trans ?_ (by assumption))); done)⟩

end Go.Proofs.Ytoopkfnkmaaieaa
