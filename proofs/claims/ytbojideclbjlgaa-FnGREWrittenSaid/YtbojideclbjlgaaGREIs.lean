/-
  A header of routing encapsulation: the law's own functions.
-/
import Derived.Test.YtbojideclbjlgaaLib3
import Derived.Test.YtbojideclbjlgaaLib2
import Derived.Test.YtbojideclbjlgaaBase
import Derived.Deep.RegionHeld3
import Derived.Deep.RegionWith
namespace Go.Proofs.Ytbojideclbjlgaa
open Go.RowKit

def isGRE (ve pr : Int) (s k q a : Bool) (su ky sq ak : Int) : Bool := (s || (su == 0)) && (k || (ky == 0)) && (q || (sq == 0)) && (a || (ak == 0)) && upto ve 7 && upto pr 65535 && upto su 65535 && upto ky 4294967295 && upto sq 4294967295 && upto ak 4294967295

set_option maxRecDepth 100000 in
set_option maxHeartbeats 8000000 in
theorem isGRE_calls (ve pr : Int) (s k q a : Bool) (su ky sq ak : Int) (w : World)  :
    Calls Try.prog 39 #[.agg #[.int .i64 ve, .int .i64 pr, .bool s, .bool k, .bool q, .bool a, .int .i64 su, .int .i64 ky, .int .i64 sq, .int .i64 ak]] w fun e w' => e = .returned (.bool (isGRE ve pr s k q a su ky sq ak)) ∧ Gr w w' := by
  have z1 : upto 0 65535 = true := by decide
  have z2 : upto 0 4294967295 = true := by decide
  cases s with
  | false =>
    by_cases hp1 : su = 0
    case neg =>
      have hb1 : (su != 0) = true := bne_iff_ne.2 hp1
      have hc1 : (su == 0) = false := beq_false_of_ne hp1
      go_enter Try.func39, Try.ntmps39
      go_wp2_with ((first | (go_at_call 66; refine (upTo_calls _ _ _).mono ?_; rintro e w9 ⟨rfl, rfl⟩)))
      go_ret
      exact ⟨by simp [isGRE, hc1], (by (repeat (with_reducible first | exact Gr.refl _ | assumption | refine Gr.alloc ?_ _ | refine Gr.drew ?_ | refine Gr.drewN ?_ _ | refine Gr.trans ?_ (by assumption))); done)⟩
    case pos =>
      subst hp1
      cases k with
      | false =>
        by_cases hp3 : ky = 0
        case neg =>
          have hb3 : (ky != 0) = true := bne_iff_ne.2 hp3
          have hc3 : (ky == 0) = false := beq_false_of_ne hp3
          go_enter Try.func39, Try.ntmps39
          go_wp2_with ((first | (go_at_call 66; refine (upTo_calls _ _ _).mono ?_; rintro e w9 ⟨rfl, rfl⟩)))
          go_ret
          exact ⟨by simp [isGRE, hc3, z1], (by (repeat (with_reducible first | exact Gr.refl _ | assumption | refine Gr.alloc ?_ _ | refine Gr.drew ?_ | refine Gr.drewN ?_ _ | refine Gr.trans ?_ (by assumption))); done)⟩
        case pos =>
          subst hp3
          cases q with
          | false =>
            by_cases hp5 : sq = 0
            case neg =>
              have hb5 : (sq != 0) = true := bne_iff_ne.2 hp5
              have hc5 : (sq == 0) = false := beq_false_of_ne hp5
              go_enter Try.func39, Try.ntmps39
              go_wp2_with ((first | (go_at_call 66; refine (upTo_calls _ _ _).mono ?_; rintro e w9 ⟨rfl, rfl⟩)))
              go_ret
              exact ⟨by simp [isGRE, hc5, z1, z2], (by (repeat (with_reducible first | exact Gr.refl _ | assumption | refine Gr.alloc ?_ _ | refine Gr.drew ?_ | refine Gr.drewN ?_ _ | refine Gr.trans ?_ (by assumption))); done)⟩
            case pos =>
              subst hp5
              cases a with
              | false =>
                by_cases hp7 : ak = 0
                case neg =>
                  have hb7 : (ak != 0) = true := bne_iff_ne.2 hp7
                  have hc7 : (ak == 0) = false := beq_false_of_ne hp7
                  go_enter Try.func39, Try.ntmps39
                  go_wp2_with ((first | (go_at_call 66; refine (upTo_calls _ _ _).mono ?_; rintro e w9 ⟨rfl, rfl⟩)))
                  go_ret
                  exact ⟨by simp [isGRE, hc7, z1, z2], (by (repeat (with_reducible first | exact Gr.refl _ | assumption | refine Gr.alloc ?_ _ | refine Gr.drew ?_ | refine Gr.drewN ?_ _ | refine Gr.trans ?_ (by assumption))); done)⟩
                case pos =>
                  subst hp7
                  cases hc8 : (upto ve 7 : Bool) with
                  | false =>
                    go_enter Try.func39, Try.ntmps39
                    go_wp2_with ((first | (go_at_call 66; refine (upTo_calls _ _ _).mono ?_; rintro e w9 ⟨rfl, rfl⟩)))
                    go_ret
                    exact ⟨by simp [isGRE, hc8, z1, z2], (by (repeat (with_reducible first | exact Gr.refl _ | assumption | refine Gr.alloc ?_ _ | refine Gr.drew ?_ | refine Gr.drewN ?_ _ | refine Gr.trans ?_ (by assumption))); done)⟩
                  | true =>
                    cases hc9 : (upto pr 65535 : Bool) with
                    | false =>
                      go_enter Try.func39, Try.ntmps39
                      go_wp2_with ((first | (go_at_call 66; refine (upTo_calls _ _ _).mono ?_; rintro e w9 ⟨rfl, rfl⟩)))
                      go_ret
                      exact ⟨by simp [isGRE, hc8, hc9, z1, z2], (by (repeat (with_reducible first | exact Gr.refl _ | assumption | refine Gr.alloc ?_ _ | refine Gr.drew ?_ | refine Gr.drewN ?_ _ | refine Gr.trans ?_ (by assumption))); done)⟩
                    | true =>
                      go_enter Try.func39, Try.ntmps39
                      go_wp2_with ((first | (go_at_call 66; refine (upTo_calls _ _ _).mono ?_; rintro e w9 ⟨rfl, rfl⟩)))
                      go_ret
                      exact ⟨by simp [isGRE, hc8, hc9, z1, z2], (by (repeat (with_reducible first | exact Gr.refl _ | assumption | refine Gr.alloc ?_ _ | refine Gr.drew ?_ | refine Gr.drewN ?_ _ | refine Gr.trans ?_ (by assumption))); done)⟩
              | true =>
                cases hc7 : (upto ve 7 : Bool) with
                | false =>
                  go_enter Try.func39, Try.ntmps39
                  go_wp2_with ((first | (go_at_call 66; refine (upTo_calls _ _ _).mono ?_; rintro e w9 ⟨rfl, rfl⟩)))
                  go_ret
                  exact ⟨by simp [isGRE, hc7, z1, z2], (by (repeat (with_reducible first | exact Gr.refl _ | assumption | refine Gr.alloc ?_ _ | refine Gr.drew ?_ | refine Gr.drewN ?_ _ | refine Gr.trans ?_ (by assumption))); done)⟩
                | true =>
                  cases hc8 : (upto pr 65535 : Bool) with
                  | false =>
                    go_enter Try.func39, Try.ntmps39
                    go_wp2_with ((first | (go_at_call 66; refine (upTo_calls _ _ _).mono ?_; rintro e w9 ⟨rfl, rfl⟩)))
                    go_ret
                    exact ⟨by simp [isGRE, hc7, hc8, z1, z2], (by (repeat (with_reducible first | exact Gr.refl _ | assumption | refine Gr.alloc ?_ _ | refine Gr.drew ?_ | refine Gr.drewN ?_ _ | refine Gr.trans ?_ (by assumption))); done)⟩
                  | true =>
                    cases hc9 : (upto ak 4294967295 : Bool) with
                    | false =>
                      go_enter Try.func39, Try.ntmps39
                      go_wp2_with ((first | (go_at_call 66; refine (upTo_calls _ _ _).mono ?_; rintro e w9 ⟨rfl, rfl⟩)))
                      go_ret
                      exact ⟨by simp [isGRE, hc7, hc8, hc9, z1, z2], (by (repeat (with_reducible first | exact Gr.refl _ | assumption | refine Gr.alloc ?_ _ | refine Gr.drew ?_ | refine Gr.drewN ?_ _ | refine Gr.trans ?_ (by assumption))); done)⟩
                    | true =>
                      go_enter Try.func39, Try.ntmps39
                      go_wp2_with ((first | (go_at_call 66; refine (upTo_calls _ _ _).mono ?_; rintro e w9 ⟨rfl, rfl⟩)))
                      go_ret
                      exact ⟨by simp [isGRE, hc7, hc8, hc9, z1, z2], (by (repeat (with_reducible first | exact Gr.refl _ | assumption | refine Gr.alloc ?_ _ | refine Gr.drew ?_ | refine Gr.drewN ?_ _ | refine Gr.trans ?_ (by assumption))); done)⟩
          | true =>
            cases a with
            | false =>
              by_cases hp6 : ak = 0
              case neg =>
                have hb6 : (ak != 0) = true := bne_iff_ne.2 hp6
                have hc6 : (ak == 0) = false := beq_false_of_ne hp6
                go_enter Try.func39, Try.ntmps39
                go_wp2_with ((first | (go_at_call 66; refine (upTo_calls _ _ _).mono ?_; rintro e w9 ⟨rfl, rfl⟩)))
                go_ret
                exact ⟨by simp [isGRE, hc6, z1, z2], (by (repeat (with_reducible first | exact Gr.refl _ | assumption | refine Gr.alloc ?_ _ | refine Gr.drew ?_ | refine Gr.drewN ?_ _ | refine Gr.trans ?_ (by assumption))); done)⟩
              case pos =>
                subst hp6
                cases hc7 : (upto ve 7 : Bool) with
                | false =>
                  go_enter Try.func39, Try.ntmps39
                  go_wp2_with ((first | (go_at_call 66; refine (upTo_calls _ _ _).mono ?_; rintro e w9 ⟨rfl, rfl⟩)))
                  go_ret
                  exact ⟨by simp [isGRE, hc7, z1, z2], (by (repeat (with_reducible first | exact Gr.refl _ | assumption | refine Gr.alloc ?_ _ | refine Gr.drew ?_ | refine Gr.drewN ?_ _ | refine Gr.trans ?_ (by assumption))); done)⟩
                | true =>
                  cases hc8 : (upto pr 65535 : Bool) with
                  | false =>
                    go_enter Try.func39, Try.ntmps39
                    go_wp2_with ((first | (go_at_call 66; refine (upTo_calls _ _ _).mono ?_; rintro e w9 ⟨rfl, rfl⟩)))
                    go_ret
                    exact ⟨by simp [isGRE, hc7, hc8, z1, z2], (by (repeat (with_reducible first | exact Gr.refl _ | assumption | refine Gr.alloc ?_ _ | refine Gr.drew ?_ | refine Gr.drewN ?_ _ | refine Gr.trans ?_ (by assumption))); done)⟩
                  | true =>
                    cases hc9 : (upto sq 4294967295 : Bool) with
                    | false =>
                      go_enter Try.func39, Try.ntmps39
                      go_wp2_with ((first | (go_at_call 66; refine (upTo_calls _ _ _).mono ?_; rintro e w9 ⟨rfl, rfl⟩)))
                      go_ret
                      exact ⟨by simp [isGRE, hc7, hc8, hc9, z1, z2], (by (repeat (with_reducible first | exact Gr.refl _ | assumption | refine Gr.alloc ?_ _ | refine Gr.drew ?_ | refine Gr.drewN ?_ _ | refine Gr.trans ?_ (by assumption))); done)⟩
                    | true =>
                      go_enter Try.func39, Try.ntmps39
                      go_wp2_with ((first | (go_at_call 66; refine (upTo_calls _ _ _).mono ?_; rintro e w9 ⟨rfl, rfl⟩)))
                      go_ret
                      exact ⟨by simp [isGRE, hc7, hc8, hc9, z1, z2], (by (repeat (with_reducible first | exact Gr.refl _ | assumption | refine Gr.alloc ?_ _ | refine Gr.drew ?_ | refine Gr.drewN ?_ _ | refine Gr.trans ?_ (by assumption))); done)⟩
            | true =>
              cases hc6 : (upto ve 7 : Bool) with
              | false =>
                go_enter Try.func39, Try.ntmps39
                go_wp2_with ((first | (go_at_call 66; refine (upTo_calls _ _ _).mono ?_; rintro e w9 ⟨rfl, rfl⟩)))
                go_ret
                exact ⟨by simp [isGRE, hc6, z1, z2], (by (repeat (with_reducible first | exact Gr.refl _ | assumption | refine Gr.alloc ?_ _ | refine Gr.drew ?_ | refine Gr.drewN ?_ _ | refine Gr.trans ?_ (by assumption))); done)⟩
              | true =>
                cases hc7 : (upto pr 65535 : Bool) with
                | false =>
                  go_enter Try.func39, Try.ntmps39
                  go_wp2_with ((first | (go_at_call 66; refine (upTo_calls _ _ _).mono ?_; rintro e w9 ⟨rfl, rfl⟩)))
                  go_ret
                  exact ⟨by simp [isGRE, hc6, hc7, z1, z2], (by (repeat (with_reducible first | exact Gr.refl _ | assumption | refine Gr.alloc ?_ _ | refine Gr.drew ?_ | refine Gr.drewN ?_ _ | refine Gr.trans ?_ (by assumption))); done)⟩
                | true =>
                  cases hc8 : (upto sq 4294967295 : Bool) with
                  | false =>
                    go_enter Try.func39, Try.ntmps39
                    go_wp2_with ((first | (go_at_call 66; refine (upTo_calls _ _ _).mono ?_; rintro e w9 ⟨rfl, rfl⟩)))
                    go_ret
                    exact ⟨by simp [isGRE, hc6, hc7, hc8, z1, z2], (by (repeat (with_reducible first | exact Gr.refl _ | assumption | refine Gr.alloc ?_ _ | refine Gr.drew ?_ | refine Gr.drewN ?_ _ | refine Gr.trans ?_ (by assumption))); done)⟩
                  | true =>
                    cases hc9 : (upto ak 4294967295 : Bool) with
                    | false =>
                      go_enter Try.func39, Try.ntmps39
                      go_wp2_with ((first | (go_at_call 66; refine (upTo_calls _ _ _).mono ?_; rintro e w9 ⟨rfl, rfl⟩)))
                      go_ret
                      exact ⟨by simp [isGRE, hc6, hc7, hc8, hc9, z1, z2], (by (repeat (with_reducible first | exact Gr.refl _ | assumption | refine Gr.alloc ?_ _ | refine Gr.drew ?_ | refine Gr.drewN ?_ _ | refine Gr.trans ?_ (by assumption))); done)⟩
                    | true =>
                      go_enter Try.func39, Try.ntmps39
                      go_wp2_with ((first | (go_at_call 66; refine (upTo_calls _ _ _).mono ?_; rintro e w9 ⟨rfl, rfl⟩)))
                      go_ret
                      exact ⟨by simp [isGRE, hc6, hc7, hc8, hc9, z1, z2], (by (repeat (with_reducible first | exact Gr.refl _ | assumption | refine Gr.alloc ?_ _ | refine Gr.drew ?_ | refine Gr.drewN ?_ _ | refine Gr.trans ?_ (by assumption))); done)⟩
      | true =>
        cases q with
        | false =>
          by_cases hp4 : sq = 0
          case neg =>
            have hb4 : (sq != 0) = true := bne_iff_ne.2 hp4
            have hc4 : (sq == 0) = false := beq_false_of_ne hp4
            go_enter Try.func39, Try.ntmps39
            go_wp2_with ((first | (go_at_call 66; refine (upTo_calls _ _ _).mono ?_; rintro e w9 ⟨rfl, rfl⟩)))
            go_ret
            exact ⟨by simp [isGRE, hc4, z1], (by (repeat (with_reducible first | exact Gr.refl _ | assumption | refine Gr.alloc ?_ _ | refine Gr.drew ?_ | refine Gr.drewN ?_ _ | refine Gr.trans ?_ (by assumption))); done)⟩
          case pos =>
            subst hp4
            cases a with
            | false =>
              by_cases hp6 : ak = 0
              case neg =>
                have hb6 : (ak != 0) = true := bne_iff_ne.2 hp6
                have hc6 : (ak == 0) = false := beq_false_of_ne hp6
                go_enter Try.func39, Try.ntmps39
                go_wp2_with ((first | (go_at_call 66; refine (upTo_calls _ _ _).mono ?_; rintro e w9 ⟨rfl, rfl⟩)))
                go_ret
                exact ⟨by simp [isGRE, hc6, z1, z2], (by (repeat (with_reducible first | exact Gr.refl _ | assumption | refine Gr.alloc ?_ _ | refine Gr.drew ?_ | refine Gr.drewN ?_ _ | refine Gr.trans ?_ (by assumption))); done)⟩
              case pos =>
                subst hp6
                cases hc7 : (upto ve 7 : Bool) with
                | false =>
                  go_enter Try.func39, Try.ntmps39
                  go_wp2_with ((first | (go_at_call 66; refine (upTo_calls _ _ _).mono ?_; rintro e w9 ⟨rfl, rfl⟩)))
                  go_ret
                  exact ⟨by simp [isGRE, hc7, z1, z2], (by (repeat (with_reducible first | exact Gr.refl _ | assumption | refine Gr.alloc ?_ _ | refine Gr.drew ?_ | refine Gr.drewN ?_ _ | refine Gr.trans ?_ (by assumption))); done)⟩
                | true =>
                  cases hc8 : (upto pr 65535 : Bool) with
                  | false =>
                    go_enter Try.func39, Try.ntmps39
                    go_wp2_with ((first | (go_at_call 66; refine (upTo_calls _ _ _).mono ?_; rintro e w9 ⟨rfl, rfl⟩)))
                    go_ret
                    exact ⟨by simp [isGRE, hc7, hc8, z1, z2], (by (repeat (with_reducible first | exact Gr.refl _ | assumption | refine Gr.alloc ?_ _ | refine Gr.drew ?_ | refine Gr.drewN ?_ _ | refine Gr.trans ?_ (by assumption))); done)⟩
                  | true =>
                    cases hc9 : (upto ky 4294967295 : Bool) with
                    | false =>
                      go_enter Try.func39, Try.ntmps39
                      go_wp2_with ((first | (go_at_call 66; refine (upTo_calls _ _ _).mono ?_; rintro e w9 ⟨rfl, rfl⟩)))
                      go_ret
                      exact ⟨by simp [isGRE, hc7, hc8, hc9, z1, z2], (by (repeat (with_reducible first | exact Gr.refl _ | assumption | refine Gr.alloc ?_ _ | refine Gr.drew ?_ | refine Gr.drewN ?_ _ | refine Gr.trans ?_ (by assumption))); done)⟩
                    | true =>
                      go_enter Try.func39, Try.ntmps39
                      go_wp2_with ((first | (go_at_call 66; refine (upTo_calls _ _ _).mono ?_; rintro e w9 ⟨rfl, rfl⟩)))
                      go_ret
                      exact ⟨by simp [isGRE, hc7, hc8, hc9, z1, z2], (by (repeat (with_reducible first | exact Gr.refl _ | assumption | refine Gr.alloc ?_ _ | refine Gr.drew ?_ | refine Gr.drewN ?_ _ | refine Gr.trans ?_ (by assumption))); done)⟩
            | true =>
              cases hc6 : (upto ve 7 : Bool) with
              | false =>
                go_enter Try.func39, Try.ntmps39
                go_wp2_with ((first | (go_at_call 66; refine (upTo_calls _ _ _).mono ?_; rintro e w9 ⟨rfl, rfl⟩)))
                go_ret
                exact ⟨by simp [isGRE, hc6, z1, z2], (by (repeat (with_reducible first | exact Gr.refl _ | assumption | refine Gr.alloc ?_ _ | refine Gr.drew ?_ | refine Gr.drewN ?_ _ | refine Gr.trans ?_ (by assumption))); done)⟩
              | true =>
                cases hc7 : (upto pr 65535 : Bool) with
                | false =>
                  go_enter Try.func39, Try.ntmps39
                  go_wp2_with ((first | (go_at_call 66; refine (upTo_calls _ _ _).mono ?_; rintro e w9 ⟨rfl, rfl⟩)))
                  go_ret
                  exact ⟨by simp [isGRE, hc6, hc7, z1, z2], (by (repeat (with_reducible first | exact Gr.refl _ | assumption | refine Gr.alloc ?_ _ | refine Gr.drew ?_ | refine Gr.drewN ?_ _ | refine Gr.trans ?_ (by assumption))); done)⟩
                | true =>
                  cases hc8 : (upto ky 4294967295 : Bool) with
                  | false =>
                    go_enter Try.func39, Try.ntmps39
                    go_wp2_with ((first | (go_at_call 66; refine (upTo_calls _ _ _).mono ?_; rintro e w9 ⟨rfl, rfl⟩)))
                    go_ret
                    exact ⟨by simp [isGRE, hc6, hc7, hc8, z1, z2], (by (repeat (with_reducible first | exact Gr.refl _ | assumption | refine Gr.alloc ?_ _ | refine Gr.drew ?_ | refine Gr.drewN ?_ _ | refine Gr.trans ?_ (by assumption))); done)⟩
                  | true =>
                    cases hc9 : (upto ak 4294967295 : Bool) with
                    | false =>
                      go_enter Try.func39, Try.ntmps39
                      go_wp2_with ((first | (go_at_call 66; refine (upTo_calls _ _ _).mono ?_; rintro e w9 ⟨rfl, rfl⟩)))
                      go_ret
                      exact ⟨by simp [isGRE, hc6, hc7, hc8, hc9, z1, z2], (by (repeat (with_reducible first | exact Gr.refl _ | assumption | refine Gr.alloc ?_ _ | refine Gr.drew ?_ | refine Gr.drewN ?_ _ | refine Gr.trans ?_ (by assumption))); done)⟩
                    | true =>
                      go_enter Try.func39, Try.ntmps39
                      go_wp2_with ((first | (go_at_call 66; refine (upTo_calls _ _ _).mono ?_; rintro e w9 ⟨rfl, rfl⟩)))
                      go_ret
                      exact ⟨by simp [isGRE, hc6, hc7, hc8, hc9, z1, z2], (by (repeat (with_reducible first | exact Gr.refl _ | assumption | refine Gr.alloc ?_ _ | refine Gr.drew ?_ | refine Gr.drewN ?_ _ | refine Gr.trans ?_ (by assumption))); done)⟩
        | true =>
          cases a with
          | false =>
            by_cases hp5 : ak = 0
            case neg =>
              have hb5 : (ak != 0) = true := bne_iff_ne.2 hp5
              have hc5 : (ak == 0) = false := beq_false_of_ne hp5
              go_enter Try.func39, Try.ntmps39
              go_wp2_with ((first | (go_at_call 66; refine (upTo_calls _ _ _).mono ?_; rintro e w9 ⟨rfl, rfl⟩)))
              go_ret
              exact ⟨by simp [isGRE, hc5, z1], (by (repeat (with_reducible first | exact Gr.refl _ | assumption | refine Gr.alloc ?_ _ | refine Gr.drew ?_ | refine Gr.drewN ?_ _ | refine Gr.trans ?_ (by assumption))); done)⟩
            case pos =>
              subst hp5
              cases hc6 : (upto ve 7 : Bool) with
              | false =>
                go_enter Try.func39, Try.ntmps39
                go_wp2_with ((first | (go_at_call 66; refine (upTo_calls _ _ _).mono ?_; rintro e w9 ⟨rfl, rfl⟩)))
                go_ret
                exact ⟨by simp [isGRE, hc6, z1, z2], (by (repeat (with_reducible first | exact Gr.refl _ | assumption | refine Gr.alloc ?_ _ | refine Gr.drew ?_ | refine Gr.drewN ?_ _ | refine Gr.trans ?_ (by assumption))); done)⟩
              | true =>
                cases hc7 : (upto pr 65535 : Bool) with
                | false =>
                  go_enter Try.func39, Try.ntmps39
                  go_wp2_with ((first | (go_at_call 66; refine (upTo_calls _ _ _).mono ?_; rintro e w9 ⟨rfl, rfl⟩)))
                  go_ret
                  exact ⟨by simp [isGRE, hc6, hc7, z1, z2], (by (repeat (with_reducible first | exact Gr.refl _ | assumption | refine Gr.alloc ?_ _ | refine Gr.drew ?_ | refine Gr.drewN ?_ _ | refine Gr.trans ?_ (by assumption))); done)⟩
                | true =>
                  cases hc8 : (upto ky 4294967295 : Bool) with
                  | false =>
                    go_enter Try.func39, Try.ntmps39
                    go_wp2_with ((first | (go_at_call 66; refine (upTo_calls _ _ _).mono ?_; rintro e w9 ⟨rfl, rfl⟩)))
                    go_ret
                    exact ⟨by simp [isGRE, hc6, hc7, hc8, z1, z2], (by (repeat (with_reducible first | exact Gr.refl _ | assumption | refine Gr.alloc ?_ _ | refine Gr.drew ?_ | refine Gr.drewN ?_ _ | refine Gr.trans ?_ (by assumption))); done)⟩
                  | true =>
                    cases hc9 : (upto sq 4294967295 : Bool) with
                    | false =>
                      go_enter Try.func39, Try.ntmps39
                      go_wp2_with ((first | (go_at_call 66; refine (upTo_calls _ _ _).mono ?_; rintro e w9 ⟨rfl, rfl⟩)))
                      go_ret
                      exact ⟨by simp [isGRE, hc6, hc7, hc8, hc9, z1, z2], (by (repeat (with_reducible first | exact Gr.refl _ | assumption | refine Gr.alloc ?_ _ | refine Gr.drew ?_ | refine Gr.drewN ?_ _ | refine Gr.trans ?_ (by assumption))); done)⟩
                    | true =>
                      go_enter Try.func39, Try.ntmps39
                      go_wp2_with ((first | (go_at_call 66; refine (upTo_calls _ _ _).mono ?_; rintro e w9 ⟨rfl, rfl⟩)))
                      go_ret
                      exact ⟨by simp [isGRE, hc6, hc7, hc8, hc9, z1, z2], (by (repeat (with_reducible first | exact Gr.refl _ | assumption | refine Gr.alloc ?_ _ | refine Gr.drew ?_ | refine Gr.drewN ?_ _ | refine Gr.trans ?_ (by assumption))); done)⟩
          | true =>
            cases hc5 : (upto ve 7 : Bool) with
            | false =>
              go_enter Try.func39, Try.ntmps39
              go_wp2_with ((first | (go_at_call 66; refine (upTo_calls _ _ _).mono ?_; rintro e w9 ⟨rfl, rfl⟩)))
              go_ret
              exact ⟨by simp [isGRE, hc5, z1], (by (repeat (with_reducible first | exact Gr.refl _ | assumption | refine Gr.alloc ?_ _ | refine Gr.drew ?_ | refine Gr.drewN ?_ _ | refine Gr.trans ?_ (by assumption))); done)⟩
            | true =>
              cases hc6 : (upto pr 65535 : Bool) with
              | false =>
                go_enter Try.func39, Try.ntmps39
                go_wp2_with ((first | (go_at_call 66; refine (upTo_calls _ _ _).mono ?_; rintro e w9 ⟨rfl, rfl⟩)))
                go_ret
                exact ⟨by simp [isGRE, hc5, hc6, z1], (by (repeat (with_reducible first | exact Gr.refl _ | assumption | refine Gr.alloc ?_ _ | refine Gr.drew ?_ | refine Gr.drewN ?_ _ | refine Gr.trans ?_ (by assumption))); done)⟩
              | true =>
                cases hc7 : (upto ky 4294967295 : Bool) with
                | false =>
                  go_enter Try.func39, Try.ntmps39
                  go_wp2_with ((first | (go_at_call 66; refine (upTo_calls _ _ _).mono ?_; rintro e w9 ⟨rfl, rfl⟩)))
                  go_ret
                  exact ⟨by simp [isGRE, hc5, hc6, hc7, z1], (by (repeat (with_reducible first | exact Gr.refl _ | assumption | refine Gr.alloc ?_ _ | refine Gr.drew ?_ | refine Gr.drewN ?_ _ | refine Gr.trans ?_ (by assumption))); done)⟩
                | true =>
                  cases hc8 : (upto sq 4294967295 : Bool) with
                  | false =>
                    go_enter Try.func39, Try.ntmps39
                    go_wp2_with ((first | (go_at_call 66; refine (upTo_calls _ _ _).mono ?_; rintro e w9 ⟨rfl, rfl⟩)))
                    go_ret
                    exact ⟨by simp [isGRE, hc5, hc6, hc7, hc8, z1], (by (repeat (with_reducible first | exact Gr.refl _ | assumption | refine Gr.alloc ?_ _ | refine Gr.drew ?_ | refine Gr.drewN ?_ _ | refine Gr.trans ?_ (by assumption))); done)⟩
                  | true =>
                    cases hc9 : (upto ak 4294967295 : Bool) with
                    | false =>
                      go_enter Try.func39, Try.ntmps39
                      go_wp2_with ((first | (go_at_call 66; refine (upTo_calls _ _ _).mono ?_; rintro e w9 ⟨rfl, rfl⟩)))
                      go_ret
                      exact ⟨by simp [isGRE, hc5, hc6, hc7, hc8, hc9, z1], (by (repeat (with_reducible first | exact Gr.refl _ | assumption | refine Gr.alloc ?_ _ | refine Gr.drew ?_ | refine Gr.drewN ?_ _ | refine Gr.trans ?_ (by assumption))); done)⟩
                    | true =>
                      go_enter Try.func39, Try.ntmps39
                      go_wp2_with ((first | (go_at_call 66; refine (upTo_calls _ _ _).mono ?_; rintro e w9 ⟨rfl, rfl⟩)))
                      go_ret
                      exact ⟨by simp [isGRE, hc5, hc6, hc7, hc8, hc9, z1], (by (repeat (with_reducible first | exact Gr.refl _ | assumption | refine Gr.alloc ?_ _ | refine Gr.drew ?_ | refine Gr.drewN ?_ _ | refine Gr.trans ?_ (by assumption))); done)⟩
  | true =>
    cases k with
    | false =>
      by_cases hp2 : ky = 0
      case neg =>
        have hb2 : (ky != 0) = true := bne_iff_ne.2 hp2
        have hc2 : (ky == 0) = false := beq_false_of_ne hp2
        go_enter Try.func39, Try.ntmps39
        go_wp2_with ((first | (go_at_call 66; refine (upTo_calls _ _ _).mono ?_; rintro e w9 ⟨rfl, rfl⟩)))
        go_ret
        exact ⟨by simp [isGRE, hc2], (by (repeat (with_reducible first | exact Gr.refl _ | assumption | refine Gr.alloc ?_ _ | refine Gr.drew ?_ | refine Gr.drewN ?_ _ | refine Gr.trans ?_ (by assumption))); done)⟩
      case pos =>
        subst hp2
        cases q with
        | false =>
          by_cases hp4 : sq = 0
          case neg =>
            have hb4 : (sq != 0) = true := bne_iff_ne.2 hp4
            have hc4 : (sq == 0) = false := beq_false_of_ne hp4
            go_enter Try.func39, Try.ntmps39
            go_wp2_with ((first | (go_at_call 66; refine (upTo_calls _ _ _).mono ?_; rintro e w9 ⟨rfl, rfl⟩)))
            go_ret
            exact ⟨by simp [isGRE, hc4, z2], (by (repeat (with_reducible first | exact Gr.refl _ | assumption | refine Gr.alloc ?_ _ | refine Gr.drew ?_ | refine Gr.drewN ?_ _ | refine Gr.trans ?_ (by assumption))); done)⟩
          case pos =>
            subst hp4
            cases a with
            | false =>
              by_cases hp6 : ak = 0
              case neg =>
                have hb6 : (ak != 0) = true := bne_iff_ne.2 hp6
                have hc6 : (ak == 0) = false := beq_false_of_ne hp6
                go_enter Try.func39, Try.ntmps39
                go_wp2_with ((first | (go_at_call 66; refine (upTo_calls _ _ _).mono ?_; rintro e w9 ⟨rfl, rfl⟩)))
                go_ret
                exact ⟨by simp [isGRE, hc6, z2], (by (repeat (with_reducible first | exact Gr.refl _ | assumption | refine Gr.alloc ?_ _ | refine Gr.drew ?_ | refine Gr.drewN ?_ _ | refine Gr.trans ?_ (by assumption))); done)⟩
              case pos =>
                subst hp6
                cases hc7 : (upto ve 7 : Bool) with
                | false =>
                  go_enter Try.func39, Try.ntmps39
                  go_wp2_with ((first | (go_at_call 66; refine (upTo_calls _ _ _).mono ?_; rintro e w9 ⟨rfl, rfl⟩)))
                  go_ret
                  exact ⟨by simp [isGRE, hc7, z2], (by (repeat (with_reducible first | exact Gr.refl _ | assumption | refine Gr.alloc ?_ _ | refine Gr.drew ?_ | refine Gr.drewN ?_ _ | refine Gr.trans ?_ (by assumption))); done)⟩
                | true =>
                  cases hc8 : (upto pr 65535 : Bool) with
                  | false =>
                    go_enter Try.func39, Try.ntmps39
                    go_wp2_with ((first | (go_at_call 66; refine (upTo_calls _ _ _).mono ?_; rintro e w9 ⟨rfl, rfl⟩)))
                    go_ret
                    exact ⟨by simp [isGRE, hc7, hc8, z2], (by (repeat (with_reducible first | exact Gr.refl _ | assumption | refine Gr.alloc ?_ _ | refine Gr.drew ?_ | refine Gr.drewN ?_ _ | refine Gr.trans ?_ (by assumption))); done)⟩
                  | true =>
                    cases hc9 : (upto su 65535 : Bool) with
                    | false =>
                      go_enter Try.func39, Try.ntmps39
                      go_wp2_with ((first | (go_at_call 66; refine (upTo_calls _ _ _).mono ?_; rintro e w9 ⟨rfl, rfl⟩)))
                      go_ret
                      exact ⟨by simp [isGRE, hc7, hc8, hc9, z2], (by (repeat (with_reducible first | exact Gr.refl _ | assumption | refine Gr.alloc ?_ _ | refine Gr.drew ?_ | refine Gr.drewN ?_ _ | refine Gr.trans ?_ (by assumption))); done)⟩
                    | true =>
                      go_enter Try.func39, Try.ntmps39
                      go_wp2_with ((first | (go_at_call 66; refine (upTo_calls _ _ _).mono ?_; rintro e w9 ⟨rfl, rfl⟩)))
                      go_ret
                      exact ⟨by simp [isGRE, hc7, hc8, hc9, z2], (by (repeat (with_reducible first | exact Gr.refl _ | assumption | refine Gr.alloc ?_ _ | refine Gr.drew ?_ | refine Gr.drewN ?_ _ | refine Gr.trans ?_ (by assumption))); done)⟩
            | true =>
              cases hc6 : (upto ve 7 : Bool) with
              | false =>
                go_enter Try.func39, Try.ntmps39
                go_wp2_with ((first | (go_at_call 66; refine (upTo_calls _ _ _).mono ?_; rintro e w9 ⟨rfl, rfl⟩)))
                go_ret
                exact ⟨by simp [isGRE, hc6, z2], (by (repeat (with_reducible first | exact Gr.refl _ | assumption | refine Gr.alloc ?_ _ | refine Gr.drew ?_ | refine Gr.drewN ?_ _ | refine Gr.trans ?_ (by assumption))); done)⟩
              | true =>
                cases hc7 : (upto pr 65535 : Bool) with
                | false =>
                  go_enter Try.func39, Try.ntmps39
                  go_wp2_with ((first | (go_at_call 66; refine (upTo_calls _ _ _).mono ?_; rintro e w9 ⟨rfl, rfl⟩)))
                  go_ret
                  exact ⟨by simp [isGRE, hc6, hc7, z2], (by (repeat (with_reducible first | exact Gr.refl _ | assumption | refine Gr.alloc ?_ _ | refine Gr.drew ?_ | refine Gr.drewN ?_ _ | refine Gr.trans ?_ (by assumption))); done)⟩
                | true =>
                  cases hc8 : (upto su 65535 : Bool) with
                  | false =>
                    go_enter Try.func39, Try.ntmps39
                    go_wp2_with ((first | (go_at_call 66; refine (upTo_calls _ _ _).mono ?_; rintro e w9 ⟨rfl, rfl⟩)))
                    go_ret
                    exact ⟨by simp [isGRE, hc6, hc7, hc8, z2], (by (repeat (with_reducible first | exact Gr.refl _ | assumption | refine Gr.alloc ?_ _ | refine Gr.drew ?_ | refine Gr.drewN ?_ _ | refine Gr.trans ?_ (by assumption))); done)⟩
                  | true =>
                    cases hc9 : (upto ak 4294967295 : Bool) with
                    | false =>
                      go_enter Try.func39, Try.ntmps39
                      go_wp2_with ((first | (go_at_call 66; refine (upTo_calls _ _ _).mono ?_; rintro e w9 ⟨rfl, rfl⟩)))
                      go_ret
                      exact ⟨by simp [isGRE, hc6, hc7, hc8, hc9, z2], (by (repeat (with_reducible first | exact Gr.refl _ | assumption | refine Gr.alloc ?_ _ | refine Gr.drew ?_ | refine Gr.drewN ?_ _ | refine Gr.trans ?_ (by assumption))); done)⟩
                    | true =>
                      go_enter Try.func39, Try.ntmps39
                      go_wp2_with ((first | (go_at_call 66; refine (upTo_calls _ _ _).mono ?_; rintro e w9 ⟨rfl, rfl⟩)))
                      go_ret
                      exact ⟨by simp [isGRE, hc6, hc7, hc8, hc9, z2], (by (repeat (with_reducible first | exact Gr.refl _ | assumption | refine Gr.alloc ?_ _ | refine Gr.drew ?_ | refine Gr.drewN ?_ _ | refine Gr.trans ?_ (by assumption))); done)⟩
        | true =>
          cases a with
          | false =>
            by_cases hp5 : ak = 0
            case neg =>
              have hb5 : (ak != 0) = true := bne_iff_ne.2 hp5
              have hc5 : (ak == 0) = false := beq_false_of_ne hp5
              go_enter Try.func39, Try.ntmps39
              go_wp2_with ((first | (go_at_call 66; refine (upTo_calls _ _ _).mono ?_; rintro e w9 ⟨rfl, rfl⟩)))
              go_ret
              exact ⟨by simp [isGRE, hc5, z2], (by (repeat (with_reducible first | exact Gr.refl _ | assumption | refine Gr.alloc ?_ _ | refine Gr.drew ?_ | refine Gr.drewN ?_ _ | refine Gr.trans ?_ (by assumption))); done)⟩
            case pos =>
              subst hp5
              cases hc6 : (upto ve 7 : Bool) with
              | false =>
                go_enter Try.func39, Try.ntmps39
                go_wp2_with ((first | (go_at_call 66; refine (upTo_calls _ _ _).mono ?_; rintro e w9 ⟨rfl, rfl⟩)))
                go_ret
                exact ⟨by simp [isGRE, hc6, z2], (by (repeat (with_reducible first | exact Gr.refl _ | assumption | refine Gr.alloc ?_ _ | refine Gr.drew ?_ | refine Gr.drewN ?_ _ | refine Gr.trans ?_ (by assumption))); done)⟩
              | true =>
                cases hc7 : (upto pr 65535 : Bool) with
                | false =>
                  go_enter Try.func39, Try.ntmps39
                  go_wp2_with ((first | (go_at_call 66; refine (upTo_calls _ _ _).mono ?_; rintro e w9 ⟨rfl, rfl⟩)))
                  go_ret
                  exact ⟨by simp [isGRE, hc6, hc7, z2], (by (repeat (with_reducible first | exact Gr.refl _ | assumption | refine Gr.alloc ?_ _ | refine Gr.drew ?_ | refine Gr.drewN ?_ _ | refine Gr.trans ?_ (by assumption))); done)⟩
                | true =>
                  cases hc8 : (upto su 65535 : Bool) with
                  | false =>
                    go_enter Try.func39, Try.ntmps39
                    go_wp2_with ((first | (go_at_call 66; refine (upTo_calls _ _ _).mono ?_; rintro e w9 ⟨rfl, rfl⟩)))
                    go_ret
                    exact ⟨by simp [isGRE, hc6, hc7, hc8, z2], (by (repeat (with_reducible first | exact Gr.refl _ | assumption | refine Gr.alloc ?_ _ | refine Gr.drew ?_ | refine Gr.drewN ?_ _ | refine Gr.trans ?_ (by assumption))); done)⟩
                  | true =>
                    cases hc9 : (upto sq 4294967295 : Bool) with
                    | false =>
                      go_enter Try.func39, Try.ntmps39
                      go_wp2_with ((first | (go_at_call 66; refine (upTo_calls _ _ _).mono ?_; rintro e w9 ⟨rfl, rfl⟩)))
                      go_ret
                      exact ⟨by simp [isGRE, hc6, hc7, hc8, hc9, z2], (by (repeat (with_reducible first | exact Gr.refl _ | assumption | refine Gr.alloc ?_ _ | refine Gr.drew ?_ | refine Gr.drewN ?_ _ | refine Gr.trans ?_ (by assumption))); done)⟩
                    | true =>
                      go_enter Try.func39, Try.ntmps39
                      go_wp2_with ((first | (go_at_call 66; refine (upTo_calls _ _ _).mono ?_; rintro e w9 ⟨rfl, rfl⟩)))
                      go_ret
                      exact ⟨by simp [isGRE, hc6, hc7, hc8, hc9, z2], (by (repeat (with_reducible first | exact Gr.refl _ | assumption | refine Gr.alloc ?_ _ | refine Gr.drew ?_ | refine Gr.drewN ?_ _ | refine Gr.trans ?_ (by assumption))); done)⟩
          | true =>
            cases hc5 : (upto ve 7 : Bool) with
            | false =>
              go_enter Try.func39, Try.ntmps39
              go_wp2_with ((first | (go_at_call 66; refine (upTo_calls _ _ _).mono ?_; rintro e w9 ⟨rfl, rfl⟩)))
              go_ret
              exact ⟨by simp [isGRE, hc5, z2], (by (repeat (with_reducible first | exact Gr.refl _ | assumption | refine Gr.alloc ?_ _ | refine Gr.drew ?_ | refine Gr.drewN ?_ _ | refine Gr.trans ?_ (by assumption))); done)⟩
            | true =>
              cases hc6 : (upto pr 65535 : Bool) with
              | false =>
                go_enter Try.func39, Try.ntmps39
                go_wp2_with ((first | (go_at_call 66; refine (upTo_calls _ _ _).mono ?_; rintro e w9 ⟨rfl, rfl⟩)))
                go_ret
                exact ⟨by simp [isGRE, hc5, hc6, z2], (by (repeat (with_reducible first | exact Gr.refl _ | assumption | refine Gr.alloc ?_ _ | refine Gr.drew ?_ | refine Gr.drewN ?_ _ | refine Gr.trans ?_ (by assumption))); done)⟩
              | true =>
                cases hc7 : (upto su 65535 : Bool) with
                | false =>
                  go_enter Try.func39, Try.ntmps39
                  go_wp2_with ((first | (go_at_call 66; refine (upTo_calls _ _ _).mono ?_; rintro e w9 ⟨rfl, rfl⟩)))
                  go_ret
                  exact ⟨by simp [isGRE, hc5, hc6, hc7, z2], (by (repeat (with_reducible first | exact Gr.refl _ | assumption | refine Gr.alloc ?_ _ | refine Gr.drew ?_ | refine Gr.drewN ?_ _ | refine Gr.trans ?_ (by assumption))); done)⟩
                | true =>
                  cases hc8 : (upto sq 4294967295 : Bool) with
                  | false =>
                    go_enter Try.func39, Try.ntmps39
                    go_wp2_with ((first | (go_at_call 66; refine (upTo_calls _ _ _).mono ?_; rintro e w9 ⟨rfl, rfl⟩)))
                    go_ret
                    exact ⟨by simp [isGRE, hc5, hc6, hc7, hc8, z2], (by (repeat (with_reducible first | exact Gr.refl _ | assumption | refine Gr.alloc ?_ _ | refine Gr.drew ?_ | refine Gr.drewN ?_ _ | refine Gr.trans ?_ (by assumption))); done)⟩
                  | true =>
                    cases hc9 : (upto ak 4294967295 : Bool) with
                    | false =>
                      go_enter Try.func39, Try.ntmps39
                      go_wp2_with ((first | (go_at_call 66; refine (upTo_calls _ _ _).mono ?_; rintro e w9 ⟨rfl, rfl⟩)))
                      go_ret
                      exact ⟨by simp [isGRE, hc5, hc6, hc7, hc8, hc9, z2], (by (repeat (with_reducible first | exact Gr.refl _ | assumption | refine Gr.alloc ?_ _ | refine Gr.drew ?_ | refine Gr.drewN ?_ _ | refine Gr.trans ?_ (by assumption))); done)⟩
                    | true =>
                      go_enter Try.func39, Try.ntmps39
                      go_wp2_with ((first | (go_at_call 66; refine (upTo_calls _ _ _).mono ?_; rintro e w9 ⟨rfl, rfl⟩)))
                      go_ret
                      exact ⟨by simp [isGRE, hc5, hc6, hc7, hc8, hc9, z2], (by (repeat (with_reducible first | exact Gr.refl _ | assumption | refine Gr.alloc ?_ _ | refine Gr.drew ?_ | refine Gr.drewN ?_ _ | refine Gr.trans ?_ (by assumption))); done)⟩
    | true =>
      cases q with
      | false =>
        by_cases hp3 : sq = 0
        case neg =>
          have hb3 : (sq != 0) = true := bne_iff_ne.2 hp3
          have hc3 : (sq == 0) = false := beq_false_of_ne hp3
          go_enter Try.func39, Try.ntmps39
          go_wp2_with ((first | (go_at_call 66; refine (upTo_calls _ _ _).mono ?_; rintro e w9 ⟨rfl, rfl⟩)))
          go_ret
          exact ⟨by simp [isGRE, hc3], (by (repeat (with_reducible first | exact Gr.refl _ | assumption | refine Gr.alloc ?_ _ | refine Gr.drew ?_ | refine Gr.drewN ?_ _ | refine Gr.trans ?_ (by assumption))); done)⟩
        case pos =>
          subst hp3
          cases a with
          | false =>
            by_cases hp5 : ak = 0
            case neg =>
              have hb5 : (ak != 0) = true := bne_iff_ne.2 hp5
              have hc5 : (ak == 0) = false := beq_false_of_ne hp5
              go_enter Try.func39, Try.ntmps39
              go_wp2_with ((first | (go_at_call 66; refine (upTo_calls _ _ _).mono ?_; rintro e w9 ⟨rfl, rfl⟩)))
              go_ret
              exact ⟨by simp [isGRE, hc5, z2], (by (repeat (with_reducible first | exact Gr.refl _ | assumption | refine Gr.alloc ?_ _ | refine Gr.drew ?_ | refine Gr.drewN ?_ _ | refine Gr.trans ?_ (by assumption))); done)⟩
            case pos =>
              subst hp5
              cases hc6 : (upto ve 7 : Bool) with
              | false =>
                go_enter Try.func39, Try.ntmps39
                go_wp2_with ((first | (go_at_call 66; refine (upTo_calls _ _ _).mono ?_; rintro e w9 ⟨rfl, rfl⟩)))
                go_ret
                exact ⟨by simp [isGRE, hc6, z2], (by (repeat (with_reducible first | exact Gr.refl _ | assumption | refine Gr.alloc ?_ _ | refine Gr.drew ?_ | refine Gr.drewN ?_ _ | refine Gr.trans ?_ (by assumption))); done)⟩
              | true =>
                cases hc7 : (upto pr 65535 : Bool) with
                | false =>
                  go_enter Try.func39, Try.ntmps39
                  go_wp2_with ((first | (go_at_call 66; refine (upTo_calls _ _ _).mono ?_; rintro e w9 ⟨rfl, rfl⟩)))
                  go_ret
                  exact ⟨by simp [isGRE, hc6, hc7, z2], (by (repeat (with_reducible first | exact Gr.refl _ | assumption | refine Gr.alloc ?_ _ | refine Gr.drew ?_ | refine Gr.drewN ?_ _ | refine Gr.trans ?_ (by assumption))); done)⟩
                | true =>
                  cases hc8 : (upto su 65535 : Bool) with
                  | false =>
                    go_enter Try.func39, Try.ntmps39
                    go_wp2_with ((first | (go_at_call 66; refine (upTo_calls _ _ _).mono ?_; rintro e w9 ⟨rfl, rfl⟩)))
                    go_ret
                    exact ⟨by simp [isGRE, hc6, hc7, hc8, z2], (by (repeat (with_reducible first | exact Gr.refl _ | assumption | refine Gr.alloc ?_ _ | refine Gr.drew ?_ | refine Gr.drewN ?_ _ | refine Gr.trans ?_ (by assumption))); done)⟩
                  | true =>
                    cases hc9 : (upto ky 4294967295 : Bool) with
                    | false =>
                      go_enter Try.func39, Try.ntmps39
                      go_wp2_with ((first | (go_at_call 66; refine (upTo_calls _ _ _).mono ?_; rintro e w9 ⟨rfl, rfl⟩)))
                      go_ret
                      exact ⟨by simp [isGRE, hc6, hc7, hc8, hc9, z2], (by (repeat (with_reducible first | exact Gr.refl _ | assumption | refine Gr.alloc ?_ _ | refine Gr.drew ?_ | refine Gr.drewN ?_ _ | refine Gr.trans ?_ (by assumption))); done)⟩
                    | true =>
                      go_enter Try.func39, Try.ntmps39
                      go_wp2_with ((first | (go_at_call 66; refine (upTo_calls _ _ _).mono ?_; rintro e w9 ⟨rfl, rfl⟩)))
                      go_ret
                      exact ⟨by simp [isGRE, hc6, hc7, hc8, hc9, z2], (by (repeat (with_reducible first | exact Gr.refl _ | assumption | refine Gr.alloc ?_ _ | refine Gr.drew ?_ | refine Gr.drewN ?_ _ | refine Gr.trans ?_ (by assumption))); done)⟩
          | true =>
            cases hc5 : (upto ve 7 : Bool) with
            | false =>
              go_enter Try.func39, Try.ntmps39
              go_wp2_with ((first | (go_at_call 66; refine (upTo_calls _ _ _).mono ?_; rintro e w9 ⟨rfl, rfl⟩)))
              go_ret
              exact ⟨by simp [isGRE, hc5, z2], (by (repeat (with_reducible first | exact Gr.refl _ | assumption | refine Gr.alloc ?_ _ | refine Gr.drew ?_ | refine Gr.drewN ?_ _ | refine Gr.trans ?_ (by assumption))); done)⟩
            | true =>
              cases hc6 : (upto pr 65535 : Bool) with
              | false =>
                go_enter Try.func39, Try.ntmps39
                go_wp2_with ((first | (go_at_call 66; refine (upTo_calls _ _ _).mono ?_; rintro e w9 ⟨rfl, rfl⟩)))
                go_ret
                exact ⟨by simp [isGRE, hc5, hc6, z2], (by (repeat (with_reducible first | exact Gr.refl _ | assumption | refine Gr.alloc ?_ _ | refine Gr.drew ?_ | refine Gr.drewN ?_ _ | refine Gr.trans ?_ (by assumption))); done)⟩
              | true =>
                cases hc7 : (upto su 65535 : Bool) with
                | false =>
                  go_enter Try.func39, Try.ntmps39
                  go_wp2_with ((first | (go_at_call 66; refine (upTo_calls _ _ _).mono ?_; rintro e w9 ⟨rfl, rfl⟩)))
                  go_ret
                  exact ⟨by simp [isGRE, hc5, hc6, hc7, z2], (by (repeat (with_reducible first | exact Gr.refl _ | assumption | refine Gr.alloc ?_ _ | refine Gr.drew ?_ | refine Gr.drewN ?_ _ | refine Gr.trans ?_ (by assumption))); done)⟩
                | true =>
                  cases hc8 : (upto ky 4294967295 : Bool) with
                  | false =>
                    go_enter Try.func39, Try.ntmps39
                    go_wp2_with ((first | (go_at_call 66; refine (upTo_calls _ _ _).mono ?_; rintro e w9 ⟨rfl, rfl⟩)))
                    go_ret
                    exact ⟨by simp [isGRE, hc5, hc6, hc7, hc8, z2], (by (repeat (with_reducible first | exact Gr.refl _ | assumption | refine Gr.alloc ?_ _ | refine Gr.drew ?_ | refine Gr.drewN ?_ _ | refine Gr.trans ?_ (by assumption))); done)⟩
                  | true =>
                    cases hc9 : (upto ak 4294967295 : Bool) with
                    | false =>
                      go_enter Try.func39, Try.ntmps39
                      go_wp2_with ((first | (go_at_call 66; refine (upTo_calls _ _ _).mono ?_; rintro e w9 ⟨rfl, rfl⟩)))
                      go_ret
                      exact ⟨by simp [isGRE, hc5, hc6, hc7, hc8, hc9, z2], (by (repeat (with_reducible first | exact Gr.refl _ | assumption | refine Gr.alloc ?_ _ | refine Gr.drew ?_ | refine Gr.drewN ?_ _ | refine Gr.trans ?_ (by assumption))); done)⟩
                    | true =>
                      go_enter Try.func39, Try.ntmps39
                      go_wp2_with ((first | (go_at_call 66; refine (upTo_calls _ _ _).mono ?_; rintro e w9 ⟨rfl, rfl⟩)))
                      go_ret
                      exact ⟨by simp [isGRE, hc5, hc6, hc7, hc8, hc9, z2], (by (repeat (with_reducible first | exact Gr.refl _ | assumption | refine Gr.alloc ?_ _ | refine Gr.drew ?_ | refine Gr.drewN ?_ _ | refine Gr.trans ?_ (by assumption))); done)⟩
      | true =>
        cases a with
        | false =>
          by_cases hp4 : ak = 0
          case neg =>
            have hb4 : (ak != 0) = true := bne_iff_ne.2 hp4
            have hc4 : (ak == 0) = false := beq_false_of_ne hp4
            go_enter Try.func39, Try.ntmps39
            go_wp2_with ((first | (go_at_call 66; refine (upTo_calls _ _ _).mono ?_; rintro e w9 ⟨rfl, rfl⟩)))
            go_ret
            exact ⟨by simp [isGRE, hc4], (by (repeat (with_reducible first | exact Gr.refl _ | assumption | refine Gr.alloc ?_ _ | refine Gr.drew ?_ | refine Gr.drewN ?_ _ | refine Gr.trans ?_ (by assumption))); done)⟩
          case pos =>
            subst hp4
            cases hc5 : (upto ve 7 : Bool) with
            | false =>
              go_enter Try.func39, Try.ntmps39
              go_wp2_with ((first | (go_at_call 66; refine (upTo_calls _ _ _).mono ?_; rintro e w9 ⟨rfl, rfl⟩)))
              go_ret
              exact ⟨by simp [isGRE, hc5, z2], (by (repeat (with_reducible first | exact Gr.refl _ | assumption | refine Gr.alloc ?_ _ | refine Gr.drew ?_ | refine Gr.drewN ?_ _ | refine Gr.trans ?_ (by assumption))); done)⟩
            | true =>
              cases hc6 : (upto pr 65535 : Bool) with
              | false =>
                go_enter Try.func39, Try.ntmps39
                go_wp2_with ((first | (go_at_call 66; refine (upTo_calls _ _ _).mono ?_; rintro e w9 ⟨rfl, rfl⟩)))
                go_ret
                exact ⟨by simp [isGRE, hc5, hc6, z2], (by (repeat (with_reducible first | exact Gr.refl _ | assumption | refine Gr.alloc ?_ _ | refine Gr.drew ?_ | refine Gr.drewN ?_ _ | refine Gr.trans ?_ (by assumption))); done)⟩
              | true =>
                cases hc7 : (upto su 65535 : Bool) with
                | false =>
                  go_enter Try.func39, Try.ntmps39
                  go_wp2_with ((first | (go_at_call 66; refine (upTo_calls _ _ _).mono ?_; rintro e w9 ⟨rfl, rfl⟩)))
                  go_ret
                  exact ⟨by simp [isGRE, hc5, hc6, hc7, z2], (by (repeat (with_reducible first | exact Gr.refl _ | assumption | refine Gr.alloc ?_ _ | refine Gr.drew ?_ | refine Gr.drewN ?_ _ | refine Gr.trans ?_ (by assumption))); done)⟩
                | true =>
                  cases hc8 : (upto ky 4294967295 : Bool) with
                  | false =>
                    go_enter Try.func39, Try.ntmps39
                    go_wp2_with ((first | (go_at_call 66; refine (upTo_calls _ _ _).mono ?_; rintro e w9 ⟨rfl, rfl⟩)))
                    go_ret
                    exact ⟨by simp [isGRE, hc5, hc6, hc7, hc8, z2], (by (repeat (with_reducible first | exact Gr.refl _ | assumption | refine Gr.alloc ?_ _ | refine Gr.drew ?_ | refine Gr.drewN ?_ _ | refine Gr.trans ?_ (by assumption))); done)⟩
                  | true =>
                    cases hc9 : (upto sq 4294967295 : Bool) with
                    | false =>
                      go_enter Try.func39, Try.ntmps39
                      go_wp2_with ((first | (go_at_call 66; refine (upTo_calls _ _ _).mono ?_; rintro e w9 ⟨rfl, rfl⟩)))
                      go_ret
                      exact ⟨by simp [isGRE, hc5, hc6, hc7, hc8, hc9, z2], (by (repeat (with_reducible first | exact Gr.refl _ | assumption | refine Gr.alloc ?_ _ | refine Gr.drew ?_ | refine Gr.drewN ?_ _ | refine Gr.trans ?_ (by assumption))); done)⟩
                    | true =>
                      go_enter Try.func39, Try.ntmps39
                      go_wp2_with ((first | (go_at_call 66; refine (upTo_calls _ _ _).mono ?_; rintro e w9 ⟨rfl, rfl⟩)))
                      go_ret
                      exact ⟨by simp [isGRE, hc5, hc6, hc7, hc8, hc9, z2], (by (repeat (with_reducible first | exact Gr.refl _ | assumption | refine Gr.alloc ?_ _ | refine Gr.drew ?_ | refine Gr.drewN ?_ _ | refine Gr.trans ?_ (by assumption))); done)⟩
        | true =>
          cases hc4 : (upto ve 7 : Bool) with
          | false =>
            go_enter Try.func39, Try.ntmps39
            go_wp2_with ((first | (go_at_call 66; refine (upTo_calls _ _ _).mono ?_; rintro e w9 ⟨rfl, rfl⟩)))
            go_ret
            exact ⟨by simp [isGRE, hc4], (by (repeat (with_reducible first | exact Gr.refl _ | assumption | refine Gr.alloc ?_ _ | refine Gr.drew ?_ | refine Gr.drewN ?_ _ | refine Gr.trans ?_ (by assumption))); done)⟩
          | true =>
            cases hc5 : (upto pr 65535 : Bool) with
            | false =>
              go_enter Try.func39, Try.ntmps39
              go_wp2_with ((first | (go_at_call 66; refine (upTo_calls _ _ _).mono ?_; rintro e w9 ⟨rfl, rfl⟩)))
              go_ret
              exact ⟨by simp [isGRE, hc4, hc5], (by (repeat (with_reducible first | exact Gr.refl _ | assumption | refine Gr.alloc ?_ _ | refine Gr.drew ?_ | refine Gr.drewN ?_ _ | refine Gr.trans ?_ (by assumption))); done)⟩
            | true =>
              cases hc6 : (upto su 65535 : Bool) with
              | false =>
                go_enter Try.func39, Try.ntmps39
                go_wp2_with ((first | (go_at_call 66; refine (upTo_calls _ _ _).mono ?_; rintro e w9 ⟨rfl, rfl⟩)))
                go_ret
                exact ⟨by simp [isGRE, hc4, hc5, hc6], (by (repeat (with_reducible first | exact Gr.refl _ | assumption | refine Gr.alloc ?_ _ | refine Gr.drew ?_ | refine Gr.drewN ?_ _ | refine Gr.trans ?_ (by assumption))); done)⟩
              | true =>
                cases hc7 : (upto ky 4294967295 : Bool) with
                | false =>
                  go_enter Try.func39, Try.ntmps39
                  go_wp2_with ((first | (go_at_call 66; refine (upTo_calls _ _ _).mono ?_; rintro e w9 ⟨rfl, rfl⟩)))
                  go_ret
                  exact ⟨by simp [isGRE, hc4, hc5, hc6, hc7], (by (repeat (with_reducible first | exact Gr.refl _ | assumption | refine Gr.alloc ?_ _ | refine Gr.drew ?_ | refine Gr.drewN ?_ _ | refine Gr.trans ?_ (by assumption))); done)⟩
                | true =>
                  cases hc8 : (upto sq 4294967295 : Bool) with
                  | false =>
                    go_enter Try.func39, Try.ntmps39
                    go_wp2_with ((first | (go_at_call 66; refine (upTo_calls _ _ _).mono ?_; rintro e w9 ⟨rfl, rfl⟩)))
                    go_ret
                    exact ⟨by simp [isGRE, hc4, hc5, hc6, hc7, hc8], (by (repeat (with_reducible first | exact Gr.refl _ | assumption | refine Gr.alloc ?_ _ | refine Gr.drew ?_ | refine Gr.drewN ?_ _ | refine Gr.trans ?_ (by assumption))); done)⟩
                  | true =>
                    cases hc9 : (upto ak 4294967295 : Bool) with
                    | false =>
                      go_enter Try.func39, Try.ntmps39
                      go_wp2_with ((first | (go_at_call 66; refine (upTo_calls _ _ _).mono ?_; rintro e w9 ⟨rfl, rfl⟩)))
                      go_ret
                      exact ⟨by simp [isGRE, hc4, hc5, hc6, hc7, hc8, hc9], (by (repeat (with_reducible first | exact Gr.refl _ | assumption | refine Gr.alloc ?_ _ | refine Gr.drew ?_ | refine Gr.drewN ?_ _ | refine Gr.trans ?_ (by assumption))); done)⟩
                    | true =>
                      go_enter Try.func39, Try.ntmps39
                      go_wp2_with ((first | (go_at_call 66; refine (upTo_calls _ _ _).mono ?_; rintro e w9 ⟨rfl, rfl⟩)))
                      go_ret
                      exact ⟨by simp [isGRE, hc4, hc5, hc6, hc7, hc8, hc9], (by (repeat (with_reducible first | exact Gr.refl _ | assumption | refine Gr.alloc ?_ _ | refine Gr.drew ?_ | refine Gr.drewN ?_ _ | refine Gr.trans ?_ (by assumption))); done)⟩

end Go.Proofs.Ytbojideclbjlgaa
