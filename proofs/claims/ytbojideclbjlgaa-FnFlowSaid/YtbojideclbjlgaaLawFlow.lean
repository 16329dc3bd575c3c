/-
  The law FnFlow.
-/
import Derived.Test.YtbojideclbjlgaaFlow5
import Derived.Test.YtbojideclbjlgaaLib2
namespace Go.Proofs.Ytbojideclbjlgaa
open Go.RowKit

set_option maxRecDepth 100000 in
set_option maxHeartbeats 1000000 in
theorem lawFlowG0 (a1 : Option Addr) (k1 c1 : Nat) (a2 : Option Addr) (k2 c2 : Nat) (l1 l2 : List Int) (w : World) (h1 : IsB w (.slice a1 k1 c1) l1) (h2 : IsB w (.slice a2 k2 c2) l2)  (g0 : 2147483647 < (l1.length : Int)) : Calls Try.prog 3 #[.slice a1 k1 c1, .slice a2 k2 c2] w fun e w' => e = .returned (.bool true) ∧ Gr w w' := by
  obtain rfl := h1.count
  obtain rfl := h2.count
  have H1 := Lib.hid h1
  have H2 := Lib.hid h2
  clear h1 h2
  have d0 : decide (2147483647 < (l1.length : Int)) = true := decide_eq_true (by omega)
  go_enter Try.func3, Try.ntmps3
  go_wp2_with fail
  go_ret
  exact ⟨rfl, Gr.refl _⟩

set_option maxRecDepth 100000 in
set_option maxHeartbeats 1000000 in
theorem lawFlowG1 (a1 : Option Addr) (k1 c1 : Nat) (a2 : Option Addr) (k2 c2 : Nat) (l1 l2 : List Int) (w : World) (h1 : IsB w (.slice a1 k1 c1) l1) (h2 : IsB w (.slice a2 k2 c2) l2) (_h0 : ¬ 2147483647 < (l1.length : Int)) (g1 : 2147483647 < (l2.length : Int)) : Calls Try.prog 3 #[.slice a1 k1 c1, .slice a2 k2 c2] w fun e w' => e = .returned (.bool true) ∧ Gr w w' := by
  obtain rfl := h1.count
  obtain rfl := h2.count
  have H1 := Lib.hid h1
  have H2 := Lib.hid h2
  clear h1 h2
  have d0 : decide (2147483647 < (l1.length : Int)) = false := decide_eq_false (by omega)
  have d1 : decide (2147483647 < (l2.length : Int)) = true := decide_eq_true (by omega)
  go_enter Try.func3, Try.ntmps3
  go_wp2_with fail
  go_ret
  exact ⟨rfl, Gr.refl _⟩

set_option maxRecDepth 100000 in
set_option maxHeartbeats 1000000 in
theorem lawFlowG2 (a1 : Option Addr) (k1 c1 : Nat) (a2 : Option Addr) (k2 c2 : Nat) (l1 l2 : List Int) (w : World) (h1 : IsB w (.slice a1 k1 c1) l1) (h2 : IsB w (.slice a2 k2 c2) l2) (_h0 : ¬ 2147483647 < (l1.length : Int)) (_h1 : ¬ 2147483647 < (l2.length : Int)) (g2 : 15 < (l1.length : Int)) : Calls Try.prog 3 #[.slice a1 k1 c1, .slice a2 k2 c2] w fun e w' => e = .returned (.bool true) ∧ Gr w w' := by
  obtain rfl := h1.count
  obtain rfl := h2.count
  have H1 := Lib.hid h1
  have H2 := Lib.hid h2
  clear h1 h2
  have d0 : decide (2147483647 < (l1.length : Int)) = false := decide_eq_false (by omega)
  have d1 : decide (2147483647 < (l2.length : Int)) = false := decide_eq_false (by omega)
  have d2 : decide (15 < (l1.length : Int)) = true := decide_eq_true (by omega)
  go_enter Try.func3, Try.ntmps3
  go_wp2_with fail
  go_ret
  exact ⟨rfl, Gr.refl _⟩

set_option maxRecDepth 100000 in
set_option maxHeartbeats 1000000 in
theorem lawFlowG3 (a1 : Option Addr) (k1 c1 : Nat) (a2 : Option Addr) (k2 c2 : Nat) (l1 l2 : List Int) (w : World) (h1 : IsB w (.slice a1 k1 c1) l1) (h2 : IsB w (.slice a2 k2 c2) l2) (_h0 : ¬ 2147483647 < (l1.length : Int)) (_h1 : ¬ 2147483647 < (l2.length : Int)) (_h2 : ¬ 15 < (l1.length : Int)) (g3 : 15 < (l2.length : Int)) : Calls Try.prog 3 #[.slice a1 k1 c1, .slice a2 k2 c2] w fun e w' => e = .returned (.bool true) ∧ Gr w w' := by
  obtain rfl := h1.count
  obtain rfl := h2.count
  have H1 := Lib.hid h1
  have H2 := Lib.hid h2
  clear h1 h2
  have d0 : decide (2147483647 < (l1.length : Int)) = false := decide_eq_false (by omega)
  have d1 : decide (2147483647 < (l2.length : Int)) = false := decide_eq_false (by omega)
  have d2 : decide (15 < (l1.length : Int)) = false := decide_eq_false (by omega)
  have d3 : decide (15 < (l2.length : Int)) = true := decide_eq_true (by omega)
  go_enter Try.func3, Try.ntmps3
  go_wp2_with fail
  go_ret
  exact ⟨rfl, Gr.refl _⟩

set_option maxRecDepth 100000 in
set_option maxHeartbeats 2000000 in
theorem lawFlow_calls (a1 : Option Addr) (k1 c1 : Nat) (a2 : Option Addr) (k2 c2 : Nat) (l1 l2 : List Int) (w : World) (h1 : IsB w (.slice a1 k1 c1) l1) (h2 : IsB w (.slice a2 k2 c2) l2) : Calls Try.prog 3 #[.slice a1 k1 c1, .slice a2 k2 c2] w fun e w' => e = .returned (.bool true) ∧ Gr w w' := by
  by_cases g0 : 2147483647 < (l1.length : Int)
  · exact lawFlowG0 a1 k1 c1 a2 k2 c2 l1 l2 w h1 h2 g0
  by_cases g1 : 2147483647 < (l2.length : Int)
  · exact lawFlowG1 a1 k1 c1 a2 k2 c2 l1 l2 w h1 h2 g0 g1
  by_cases g2 : 15 < (l1.length : Int)
  · exact lawFlowG2 a1 k1 c1 a2 k2 c2 l1 l2 w h1 h2 g0 g1 g2
  by_cases g3 : 15 < (l2.length : Int)
  · exact lawFlowG3 a1 k1 c1 a2 k2 c2 l1 l2 w h1 h2 g0 g1 g2 g3
  obtain rfl := h1.count
  obtain rfl := h2.count
  have H1 := Lib.hid h1
  have H2 := Lib.hid h2
  clear h1 h2
  have d0 : decide (2147483647 < (l1.length : Int)) = false := decide_eq_false (by omega)
  have d1 : decide (2147483647 < (l2.length : Int)) = false := decide_eq_false (by omega)
  have d2 : decide (15 < (l1.length : Int)) = false := decide_eq_false (by omega)
  have d3 : decide (15 < (l2.length : Int)) = false := decide_eq_false (by omega)
  go_enter Try.func3, Try.ntmps3
  go_wp2_with (first
      | (go_at_call 15; refine (flowOf_calls _ _ _ _ _ _ l1 l2 _ H1.out H2.out (by omega) (by omega)).mono ?_; rintro e w1 ⟨b0, n0, q0, b1, n1, q1, b2, n2, q2, b3, n3, q3, hh, rfl, i0, i1, i2, i3, hg⟩)
      | (go_at_call_of 16 (Value.slice b0 n0 q0); refine (same_calls _ _ l1 l1 _ (i0.gr (by (repeat (with_reducible first | exact Gr.refl _ | assumption | refine Gr.alloc ?_ _ | refine Gr.drew ?_ | refine Gr.drewN ?_ _ | refine Gr.trans ?_ (by assumption))); done)) (H1.out.gr (by (repeat (with_reducible first | exact Gr.refl _ | assumption | refine Gr.alloc ?_ _ | refine Gr.drew ?_ | refine Gr.drewN ?_ _ | refine Gr.trans ?_ (by assumption))); done))).mono ?_; rintro e w9 ⟨rfl, rfl⟩)
      | (go_at_call_of 16 (Value.slice b1 n1 q1); refine (same_calls _ _ l2 l2 _ (i1.gr (by (repeat (with_reducible first | exact Gr.refl _ | assumption | refine Gr.alloc ?_ _ | refine Gr.drew ?_ | refine Gr.drewN ?_ _ | refine Gr.trans ?_ (by assumption))); done)) (H2.out.gr (by (repeat (with_reducible first | exact Gr.refl _ | assumption | refine Gr.alloc ?_ _ | refine Gr.drew ?_ | refine Gr.drewN ?_ _ | refine Gr.trans ?_ (by assumption))); done))).mono ?_; rintro e w9 ⟨rfl, rfl⟩)
      | (go_at_call_of 16 (Value.slice b2 n2 q2); refine (same_calls _ _ l2 l2 _ (i2.gr (by (repeat (with_reducible first | exact Gr.refl _ | assumption | refine Gr.alloc ?_ _ | refine Gr.drew ?_ | refine Gr.drewN ?_ _ | refine Gr.trans ?_ (by assumption))); done)) (H2.out.gr (by (repeat (with_reducible first | exact Gr.refl _ | assumption | refine Gr.alloc ?_ _ | refine Gr.drew ?_ | refine Gr.drewN ?_ _ | refine Gr.trans ?_ (by assumption))); done))).mono ?_; rintro e w9 ⟨rfl, rfl⟩)
      | (go_at_call_of 16 (Value.slice b3 n3 q3); refine (same_calls _ _ l1 l1 _ (i3.gr (by (repeat (with_reducible first | exact Gr.refl _ | assumption | refine Gr.alloc ?_ _ | refine Gr.drew ?_ | refine Gr.drewN ?_ _ | refine Gr.trans ?_ (by assumption))); done)) (H1.out.gr (by (repeat (with_reducible first | exact Gr.refl _ | assumption | refine Gr.alloc ?_ _ | refine Gr.drew ?_ | refine Gr.drewN ?_ _ | refine Gr.trans ?_ (by assumption))); done))).mono ?_; rintro e w9 ⟨rfl, rfl⟩))
  go_ret
  exact ⟨by simp, (by (repeat (with_reducible first | exact Gr.refl _ | assumption | refine Gr.alloc ?_ _ | refine Gr.drew ?_ | refine Gr.drewN ?_ _ | refine Gr.trans ?_ (by assumption))); done)⟩

end Go.Proofs.Ytbojideclbjlgaa
