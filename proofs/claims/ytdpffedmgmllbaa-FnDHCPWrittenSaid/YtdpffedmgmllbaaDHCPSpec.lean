/-
  A message for addresses as the reference has it.
-/
import Derived.Test.YtdpffedmgmllbaaKinds
import Derived.Test.YtdpffedmgmllbaaRecs
import Derived.Test.YtdpffedmgmllbaaLib2
import Derived.Test.YtdpffedmgmllbaaLib3
import Derived.Deep.RegionHeld3
import Derived.Deep.RegionWith
namespace Go.Proofs.Ytdpffedmgmllbaa
open Go.RowKit

def zz16 (l1 l2 l3 l4 l5 l6 l7 : List Int) (os : List Opt) : Bool := decide ((l1.length : Int) ≤ 2147483647) && decide ((l2.length : Int) ≤ 2147483647) && decide ((l3.length : Int) ≤ 2147483647) && decide ((l4.length : Int) ≤ 2147483647) && decide ((l5.length : Int) ≤ 2147483647) && decide ((l6.length : Int) ≤ 2147483647) && decide ((l7.length : Int) ≤ 2147483647) && fitB os

set_option maxRecDepth 100000 in
set_option maxHeartbeats 1000000 in
theorem zz16_calls (op hw hp xd sc fl : Int) (a1 : Option Addr) (n1 c1 : Nat) (a2 : Option Addr) (n2 c2 : Nat) (a3 : Option Addr) (n3 c3 : Nat) (a4 : Option Addr) (n4 c4 : Nat) (a5 : Option Addr) (n5 c5 : Nat) (a6 : Option Addr) (n6 c6 : Nat) (a7 : Option Addr) (n7 c7 : Nat) (ao : Option Addr) (no co : Nat) (l1 l2 l3 l4 l5 l6 l7 : List Int) (os : List Opt) (w : World) (h1 : IsB w (.slice a1 n1 c1) l1) (h2 : IsB w (.slice a2 n2 c2) l2) (h3 : IsB w (.slice a3 n3 c3) l3) (h4 : IsB w (.slice a4 n4 c4) l4) (h5 : IsB w (.slice a5 n5 c5) l5) (h6 : IsB w (.slice a6 n6 c6) l6) (h7 : IsB w (.slice a7 n7 c7) l7) (h0 : IsOpts w (.slice ao no co) os) :
    Calls Try.prog 19 #[.agg #[.int .i64 op, .int .i64 hw, .int .i64 hp, .int .i64 xd, .int .i64 sc, .int .i64 fl, .slice a1 n1 c1, .slice a2 n2 c2, .slice a3 n3 c3, .slice a4 n4 c4, .slice a5 n5 c5, .slice a6 n6 c6, .slice a7 n7 c7, .slice ao no co]] w fun e w' => e = .returned (.bool (zz16 l1 l2 l3 l4 l5 l6 l7 os)) ∧ Gr w w' := by
  have g1 := fun ty => h1.len (P := Try.prog) 25 ty 5 Try.underlying25
  have g2 := fun ty => h2.len (P := Try.prog) 25 ty 5 Try.underlying25
  have g3 := fun ty => h3.len (P := Try.prog) 25 ty 5 Try.underlying25
  have g4 := fun ty => h4.len (P := Try.prog) 25 ty 5 Try.underlying25
  have g5 := fun ty => h5.len (P := Try.prog) 25 ty 5 Try.underlying25
  have g6 := fun ty => h6.len (P := Try.prog) 25 ty 5 Try.underlying25
  have g7 := fun ty => h7.len (P := Try.prog) 25 ty 5 Try.underlying25
  have h := Lib.hid h0
  clear h0
  by_cases hc0 : (l1.length : Int) ≤ 2147483647
  case neg =>
    have hd0 := decide_eq_false hc0
    go_enter Try.func19, Try.ntmps19
    go_wp2_with ((go_at_call 38; refine (fits4_calls _ os _ (h.out.gr (by (repeat (with_reducible first | exact Gr.refl _ | assumption | refine Gr.alloc ?_ _ | refine Gr.drew ?_ | refine Gr.drewN ?_ _ | refine Gr.trans ?_ (by assumption))); done))).mono ?_; rintro e w9 ⟨rfl, hg9⟩))
    go_ret
    exact ⟨by simp [zz16, hd0], (by (repeat (with_reducible first | exact Gr.refl _ | assumption | refine Gr.alloc ?_ _ | refine Gr.drew ?_ | refine Gr.drewN ?_ _ | refine Gr.trans ?_ (by assumption))); done)⟩
  case pos =>
    have hd0 := decide_eq_true hc0
    by_cases hc1 : (l2.length : Int) ≤ 2147483647
    case neg =>
      have hd1 := decide_eq_false hc1
      go_enter Try.func19, Try.ntmps19
      go_wp2_with ((go_at_call 38; refine (fits4_calls _ os _ (h.out.gr (by (repeat (with_reducible first | exact Gr.refl _ | assumption | refine Gr.alloc ?_ _ | refine Gr.drew ?_ | refine Gr.drewN ?_ _ | refine Gr.trans ?_ (by assumption))); done))).mono ?_; rintro e w9 ⟨rfl, hg9⟩))
      go_ret
      exact ⟨by simp [zz16, hd0, hd1], (by (repeat (with_reducible first | exact Gr.refl _ | assumption | refine Gr.alloc ?_ _ | refine Gr.drew ?_ | refine Gr.drewN ?_ _ | refine Gr.trans ?_ (by assumption))); done)⟩
    case pos =>
      have hd1 := decide_eq_true hc1
      by_cases hc2 : (l3.length : Int) ≤ 2147483647
      case neg =>
        have hd2 := decide_eq_false hc2
        go_enter Try.func19, Try.ntmps19
        go_wp2_with ((go_at_call 38; refine (fits4_calls _ os _ (h.out.gr (by (repeat (with_reducible first | exact Gr.refl _ | assumption | refine Gr.alloc ?_ _ | refine Gr.drew ?_ | refine Gr.drewN ?_ _ | refine Gr.trans ?_ (by assumption))); done))).mono ?_; rintro e w9 ⟨rfl, hg9⟩))
        go_ret
        exact ⟨by simp [zz16, hd0, hd1, hd2], (by (repeat (with_reducible first | exact Gr.refl _ | assumption | refine Gr.alloc ?_ _ | refine Gr.drew ?_ | refine Gr.drewN ?_ _ | refine Gr.trans ?_ (by assumption))); done)⟩
      case pos =>
        have hd2 := decide_eq_true hc2
        by_cases hc3 : (l4.length : Int) ≤ 2147483647
        case neg =>
          have hd3 := decide_eq_false hc3
          go_enter Try.func19, Try.ntmps19
          go_wp2_with ((go_at_call 38; refine (fits4_calls _ os _ (h.out.gr (by (repeat (with_reducible first | exact Gr.refl _ | assumption | refine Gr.alloc ?_ _ | refine Gr.drew ?_ | refine Gr.drewN ?_ _ | refine Gr.trans ?_ (by assumption))); done))).mono ?_; rintro e w9 ⟨rfl, hg9⟩))
          go_ret
          exact ⟨by simp [zz16, hd0, hd1, hd2, hd3], (by (repeat (with_reducible first | exact Gr.refl _ | assumption | refine Gr.alloc ?_ _ | refine Gr.drew ?_ | refine Gr.drewN ?_ _ | refine Gr.trans ?_ (by assumption))); done)⟩
        case pos =>
          have hd3 := decide_eq_true hc3
          by_cases hc4 : (l5.length : Int) ≤ 2147483647
          case neg =>
            have hd4 := decide_eq_false hc4
            go_enter Try.func19, Try.ntmps19
            go_wp2_with ((go_at_call 38; refine (fits4_calls _ os _ (h.out.gr (by (repeat (with_reducible first | exact Gr.refl _ | assumption | refine Gr.alloc ?_ _ | refine Gr.drew ?_ | refine Gr.drewN ?_ _ | refine Gr.trans ?_ (by assumption))); done))).mono ?_; rintro e w9 ⟨rfl, hg9⟩))
            go_ret
            exact ⟨by simp [zz16, hd0, hd1, hd2, hd3, hd4], (by (repeat (with_reducible first | exact Gr.refl _ | assumption | refine Gr.alloc ?_ _ | refine Gr.drew ?_ | refine Gr.drewN ?_ _ | refine Gr.trans ?_ (by assumption))); done)⟩
          case pos =>
            have hd4 := decide_eq_true hc4
            by_cases hc5 : (l6.length : Int) ≤ 2147483647
            case neg =>
              have hd5 := decide_eq_false hc5
              go_enter Try.func19, Try.ntmps19
              go_wp2_with ((go_at_call 38; refine (fits4_calls _ os _ (h.out.gr (by (repeat (with_reducible first | exact Gr.refl _ | assumption | refine Gr.alloc ?_ _ | refine Gr.drew ?_ | refine Gr.drewN ?_ _ | refine Gr.trans ?_ (by assumption))); done))).mono ?_; rintro e w9 ⟨rfl, hg9⟩))
              go_ret
              exact ⟨by simp [zz16, hd0, hd1, hd2, hd3, hd4, hd5], (by (repeat (with_reducible first | exact Gr.refl _ | assumption | refine Gr.alloc ?_ _ | refine Gr.drew ?_ | refine Gr.drewN ?_ _ | refine Gr.trans ?_ (by assumption))); done)⟩
            case pos =>
              have hd5 := decide_eq_true hc5
              by_cases hc6 : (l7.length : Int) ≤ 2147483647
              case neg =>
                have hd6 := decide_eq_false hc6
                go_enter Try.func19, Try.ntmps19
                go_wp2_with ((go_at_call 38; refine (fits4_calls _ os _ (h.out.gr (by (repeat (with_reducible first | exact Gr.refl _ | assumption | refine Gr.alloc ?_ _ | refine Gr.drew ?_ | refine Gr.drewN ?_ _ | refine Gr.trans ?_ (by assumption))); done))).mono ?_; rintro e w9 ⟨rfl, hg9⟩))
                go_ret
                exact ⟨by simp [zz16, hd0, hd1, hd2, hd3, hd4, hd5, hd6], (by (repeat (with_reducible first | exact Gr.refl _ | assumption | refine Gr.alloc ?_ _ | refine Gr.drew ?_ | refine Gr.drewN ?_ _ | refine Gr.trans ?_ (by assumption))); done)⟩
              case pos =>
                have hd6 := decide_eq_true hc6
                cases hc7 : (fitB os : Bool) with
                | false =>
                  go_enter Try.func19, Try.ntmps19
                  go_wp2_with ((go_at_call 38; refine (fits4_calls _ os _ (h.out.gr (by (repeat (with_reducible first | exact Gr.refl _ | assumption | refine Gr.alloc ?_ _ | refine Gr.drew ?_ | refine Gr.drewN ?_ _ | refine Gr.trans ?_ (by assumption))); done))).mono ?_; rintro e w9 ⟨rfl, hg9⟩))
                  go_ret
                  exact ⟨by simp [zz16, hd0, hd1, hd2, hd3, hd4, hd5, hd6, hc7], (by (repeat (with_reducible first | exact Gr.refl _ | assumption | refine Gr.alloc ?_ _ | refine Gr.drew ?_ | refine Gr.drewN ?_ _ | refine Gr.trans ?_ (by assumption))); done)⟩
                | true =>
                  go_enter Try.func19, Try.ntmps19
                  go_wp2_with ((go_at_call 38; refine (fits4_calls _ os _ (h.out.gr (by (repeat (with_reducible first | exact Gr.refl _ | assumption | refine Gr.alloc ?_ _ | refine Gr.drew ?_ | refine Gr.drewN ?_ _ | refine Gr.trans ?_ (by assumption))); done))).mono ?_; rintro e w9 ⟨rfl, hg9⟩))
                  go_ret
                  exact ⟨by simp [zz16, hd0, hd1, hd2, hd3, hd4, hd5, hd6, hc7], (by (repeat (with_reducible first | exact Gr.refl _ | assumption | refine Gr.alloc ?_ _ | refine Gr.drew ?_ | refine Gr.drewN ?_ _ | refine Gr.trans ?_ (by assumption))); done)⟩

def isDHCP (op hw hp xd sc fl : Int) (l1 l2 l3 l4 l5 l6 l7 : List Int) (os : List Opt) : Bool := ((l1.length : Int) == 4) && ((l2.length : Int) == 4) && ((l3.length : Int) == 4) && ((l4.length : Int) == 4) && decide ((l5.length : Int) ≤ 16) && decide ((l6.length : Int) ≤ 64) && decide ((l7.length : Int) ≤ 128) && upto op 255 && upto hw 255 && upto hp 255 && upto xd 4294967295 && upto sc 65535 && upto fl 65535 && kindsOk 254 os

set_option maxRecDepth 100000 in
set_option maxHeartbeats 1000000 in
theorem isDHCP_calls (op hw hp xd sc fl : Int) (a1 : Option Addr) (n1 c1 : Nat) (a2 : Option Addr) (n2 c2 : Nat) (a3 : Option Addr) (n3 c3 : Nat) (a4 : Option Addr) (n4 c4 : Nat) (a5 : Option Addr) (n5 c5 : Nat) (a6 : Option Addr) (n6 c6 : Nat) (a7 : Option Addr) (n7 c7 : Nat) (ao : Option Addr) (no co : Nat) (l1 l2 l3 l4 l5 l6 l7 : List Int) (os : List Opt) (w : World) (h1 : IsB w (.slice a1 n1 c1) l1) (h2 : IsB w (.slice a2 n2 c2) l2) (h3 : IsB w (.slice a3 n3 c3) l3) (h4 : IsB w (.slice a4 n4 c4) l4) (h5 : IsB w (.slice a5 n5 c5) l5) (h6 : IsB w (.slice a6 n6 c6) l6) (h7 : IsB w (.slice a7 n7 c7) l7) (h0 : IsOpts w (.slice ao no co) os) :
    Calls Try.prog 20 #[.agg #[.int .i64 op, .int .i64 hw, .int .i64 hp, .int .i64 xd, .int .i64 sc, .int .i64 fl, .slice a1 n1 c1, .slice a2 n2 c2, .slice a3 n3 c3, .slice a4 n4 c4, .slice a5 n5 c5, .slice a6 n6 c6, .slice a7 n7 c7, .slice ao no co]] w fun e w' => e = .returned (.bool (isDHCP op hw hp xd sc fl l1 l2 l3 l4 l5 l6 l7 os)) ∧ Gr w w' := by
  have g1 := fun ty => h1.len (P := Try.prog) 25 ty 5 Try.underlying25
  have g2 := fun ty => h2.len (P := Try.prog) 25 ty 5 Try.underlying25
  have g3 := fun ty => h3.len (P := Try.prog) 25 ty 5 Try.underlying25
  have g4 := fun ty => h4.len (P := Try.prog) 25 ty 5 Try.underlying25
  have g5 := fun ty => h5.len (P := Try.prog) 25 ty 5 Try.underlying25
  have g6 := fun ty => h6.len (P := Try.prog) 25 ty 5 Try.underlying25
  have g7 := fun ty => h7.len (P := Try.prog) 25 ty 5 Try.underlying25
  have h := Lib.hid h0
  clear h0
  by_cases hz0 : (l1.length : Int) = 4
  case neg =>
    have hd0 : ((l1.length : Int) == 4) = false := beq_eq_false_iff_ne.2 hz0
    have hn0 : ((l1.length : Int) != 4) = true := by rw [bne, hd0]; rfl
    clear hz0
    go_enter Try.func20, Try.ntmps20
    go_wp2_with ((first | (go_at_call 39; refine (upTo_calls _ _ _).mono ?_; rintro e w9 ⟨rfl, rfl⟩) | (go_at_call 49; refine (areKinds_calls _ _ os _ (h.out.gr (by (repeat (with_reducible first | exact Gr.refl _ | assumption | refine Gr.alloc ?_ _ | refine Gr.drew ?_ | refine Gr.drewN ?_ _ | refine Gr.trans ?_ (by assumption))); done))).mono ?_; rintro e w9 ⟨rfl, hg9⟩)))
    go_ret
    exact ⟨by simp [isDHCP, hd0], (by (repeat (with_reducible first | exact Gr.refl _ | assumption | refine Gr.alloc ?_ _ | refine Gr.drew ?_ | refine Gr.drewN ?_ _ | refine Gr.trans ?_ (by assumption))); done)⟩
  case pos =>
    have hd0 : ((l1.length : Int) == 4) = true := beq_iff_eq.2 hz0
    have hn0 : ((l1.length : Int) != 4) = false := by rw [bne, hd0]; rfl
    clear hz0
    by_cases hz1 : (l2.length : Int) = 4
    case neg =>
      have hd1 : ((l2.length : Int) == 4) = false := beq_eq_false_iff_ne.2 hz1
      have hn1 : ((l2.length : Int) != 4) = true := by rw [bne, hd1]; rfl
      clear hz1
      go_enter Try.func20, Try.ntmps20
      go_wp2_with ((first | (go_at_call 39; refine (upTo_calls _ _ _).mono ?_; rintro e w9 ⟨rfl, rfl⟩) | (go_at_call 49; refine (areKinds_calls _ _ os _ (h.out.gr (by (repeat (with_reducible first | exact Gr.refl _ | assumption | refine Gr.alloc ?_ _ | refine Gr.drew ?_ | refine Gr.drewN ?_ _ | refine Gr.trans ?_ (by assumption))); done))).mono ?_; rintro e w9 ⟨rfl, hg9⟩)))
      go_ret
      exact ⟨by simp [isDHCP, hd0, hd1], (by (repeat (with_reducible first | exact Gr.refl _ | assumption | refine Gr.alloc ?_ _ | refine Gr.drew ?_ | refine Gr.drewN ?_ _ | refine Gr.trans ?_ (by assumption))); done)⟩
    case pos =>
      have hd1 : ((l2.length : Int) == 4) = true := beq_iff_eq.2 hz1
      have hn1 : ((l2.length : Int) != 4) = false := by rw [bne, hd1]; rfl
      clear hz1
      by_cases hz2 : (l3.length : Int) = 4
      case neg =>
        have hd2 : ((l3.length : Int) == 4) = false := beq_eq_false_iff_ne.2 hz2
        have hn2 : ((l3.length : Int) != 4) = true := by rw [bne, hd2]; rfl
        clear hz2
        go_enter Try.func20, Try.ntmps20
        go_wp2_with ((first | (go_at_call 39; refine (upTo_calls _ _ _).mono ?_; rintro e w9 ⟨rfl, rfl⟩) | (go_at_call 49; refine (areKinds_calls _ _ os _ (h.out.gr (by (repeat (with_reducible first | exact Gr.refl _ | assumption | refine Gr.alloc ?_ _ | refine Gr.drew ?_ | refine Gr.drewN ?_ _ | refine Gr.trans ?_ (by assumption))); done))).mono ?_; rintro e w9 ⟨rfl, hg9⟩)))
        go_ret
        exact ⟨by simp [isDHCP, hd0, hd1, hd2], (by (repeat (with_reducible first | exact Gr.refl _ | assumption | refine Gr.alloc ?_ _ | refine Gr.drew ?_ | refine Gr.drewN ?_ _ | refine Gr.trans ?_ (by assumption))); done)⟩
      case pos =>
        have hd2 : ((l3.length : Int) == 4) = true := beq_iff_eq.2 hz2
        have hn2 : ((l3.length : Int) != 4) = false := by rw [bne, hd2]; rfl
        clear hz2
        by_cases hz3 : (l4.length : Int) = 4
        case neg =>
          have hd3 : ((l4.length : Int) == 4) = false := beq_eq_false_iff_ne.2 hz3
          have hn3 : ((l4.length : Int) != 4) = true := by rw [bne, hd3]; rfl
          clear hz3
          go_enter Try.func20, Try.ntmps20
          go_wp2_with ((first | (go_at_call 39; refine (upTo_calls _ _ _).mono ?_; rintro e w9 ⟨rfl, rfl⟩) | (go_at_call 49; refine (areKinds_calls _ _ os _ (h.out.gr (by (repeat (with_reducible first | exact Gr.refl _ | assumption | refine Gr.alloc ?_ _ | refine Gr.drew ?_ | refine Gr.drewN ?_ _ | refine Gr.trans ?_ (by assumption))); done))).mono ?_; rintro e w9 ⟨rfl, hg9⟩)))
          go_ret
          exact ⟨by simp [isDHCP, hd0, hd1, hd2, hd3], (by (repeat (with_reducible first | exact Gr.refl _ | assumption | refine Gr.alloc ?_ _ | refine Gr.drew ?_ | refine Gr.drewN ?_ _ | refine Gr.trans ?_ (by assumption))); done)⟩
        case pos =>
          have hd3 : ((l4.length : Int) == 4) = true := beq_iff_eq.2 hz3
          have hn3 : ((l4.length : Int) != 4) = false := by rw [bne, hd3]; rfl
          clear hz3
          by_cases hc4 : (l5.length : Int) ≤ 16
          case neg =>
            have hd4 := decide_eq_false hc4
            go_enter Try.func20, Try.ntmps20
            go_wp2_with ((first | (go_at_call 39; refine (upTo_calls _ _ _).mono ?_; rintro e w9 ⟨rfl, rfl⟩) | (go_at_call 49; refine (areKinds_calls _ _ os _ (h.out.gr (by (repeat (with_reducible first | exact Gr.refl _ | assumption | refine Gr.alloc ?_ _ | refine Gr.drew ?_ | refine Gr.drewN ?_ _ | refine Gr.trans ?_ (by assumption))); done))).mono ?_; rintro e w9 ⟨rfl, hg9⟩)))
            go_ret
            exact ⟨by simp [isDHCP, hd0, hd1, hd2, hd3, hd4], (by (repeat (with_reducible first | exact Gr.refl _ | assumption | refine Gr.alloc ?_ _ | refine Gr.drew ?_ | refine Gr.drewN ?_ _ | refine Gr.trans ?_ (by assumption))); done)⟩
          case pos =>
            have hd4 := decide_eq_true hc4
            by_cases hc5 : (l6.length : Int) ≤ 64
            case neg =>
              have hd5 := decide_eq_false hc5
              go_enter Try.func20, Try.ntmps20
              go_wp2_with ((first | (go_at_call 39; refine (upTo_calls _ _ _).mono ?_; rintro e w9 ⟨rfl, rfl⟩) | (go_at_call 49; refine (areKinds_calls _ _ os _ (h.out.gr (by (repeat (with_reducible first | exact Gr.refl _ | assumption | refine Gr.alloc ?_ _ | refine Gr.drew ?_ | refine Gr.drewN ?_ _ | refine Gr.trans ?_ (by assumption))); done))).mono ?_; rintro e w9 ⟨rfl, hg9⟩)))
              go_ret
              exact ⟨by simp [isDHCP, hd0, hd1, hd2, hd3, hd4, hd5], (by (repeat (with_reducible first | exact Gr.refl _ | assumption | refine Gr.alloc ?_ _ | refine Gr.drew ?_ | refine Gr.drewN ?_ _ | refine Gr.trans ?_ (by assumption))); done)⟩
            case pos =>
              have hd5 := decide_eq_true hc5
              by_cases hc6 : (l7.length : Int) ≤ 128
              case neg =>
                have hd6 := decide_eq_false hc6
                go_enter Try.func20, Try.ntmps20
                go_wp2_with ((first | (go_at_call 39; refine (upTo_calls _ _ _).mono ?_; rintro e w9 ⟨rfl, rfl⟩) | (go_at_call 49; refine (areKinds_calls _ _ os _ (h.out.gr (by (repeat (with_reducible first | exact Gr.refl _ | assumption | refine Gr.alloc ?_ _ | refine Gr.drew ?_ | refine Gr.drewN ?_ _ | refine Gr.trans ?_ (by assumption))); done))).mono ?_; rintro e w9 ⟨rfl, hg9⟩)))
                go_ret
                exact ⟨by simp [isDHCP, hd0, hd1, hd2, hd3, hd4, hd5, hd6], (by (repeat (with_reducible first | exact Gr.refl _ | assumption | refine Gr.alloc ?_ _ | refine Gr.drew ?_ | refine Gr.drewN ?_ _ | refine Gr.trans ?_ (by assumption))); done)⟩
              case pos =>
                have hd6 := decide_eq_true hc6
                cases hc7 : (upto op 255 : Bool) with
                | false =>
                  go_enter Try.func20, Try.ntmps20
                  go_wp2_with ((first | (go_at_call 39; refine (upTo_calls _ _ _).mono ?_; rintro e w9 ⟨rfl, rfl⟩) | (go_at_call 49; refine (areKinds_calls _ _ os _ (h.out.gr (by (repeat (with_reducible first | exact Gr.refl _ | assumption | refine Gr.alloc ?_ _ | refine Gr.drew ?_ | refine Gr.drewN ?_ _ | refine Gr.trans ?_ (by assumption))); done))).mono ?_; rintro e w9 ⟨rfl, hg9⟩)))
                  go_ret
                  exact ⟨by simp [isDHCP, hd0, hd1, hd2, hd3, hd4, hd5, hd6, hc7], (by (repeat (with_reducible first | exact Gr.refl _ | assumption | refine Gr.alloc ?_ _ | refine Gr.drew ?_ | refine Gr.drewN ?_ _ | refine Gr.trans ?_ (by assumption))); done)⟩
                | true =>
                  cases hc8 : (upto hw 255 : Bool) with
                  | false =>
                    go_enter Try.func20, Try.ntmps20
                    go_wp2_with ((first | (go_at_call 39; refine (upTo_calls _ _ _).mono ?_; rintro e w9 ⟨rfl, rfl⟩) | (go_at_call 49; refine (areKinds_calls _ _ os _ (h.out.gr (by (repeat (with_reducible first | exact Gr.refl _ | assumption | refine Gr.alloc ?_ _ | refine Gr.drew ?_ | refine Gr.drewN ?_ _ | refine Gr.trans ?_ (by assumption))); done))).mono ?_; rintro e w9 ⟨rfl, hg9⟩)))
                    go_ret
                    exact ⟨by simp [isDHCP, hd0, hd1, hd2, hd3, hd4, hd5, hd6, hc7, hc8], (by (repeat (with_reducible first | exact Gr.refl _ | assumption | refine Gr.alloc ?_ _ | refine Gr.drew ?_ | refine Gr.drewN ?_ _ | refine Gr.trans ?_ (by assumption))); done)⟩
                  | true =>
                    cases hc9 : (upto hp 255 : Bool) with
                    | false =>
                      go_enter Try.func20, Try.ntmps20
                      go_wp2_with ((first | (go_at_call 39; refine (upTo_calls _ _ _).mono ?_; rintro e w9 ⟨rfl, rfl⟩) | (go_at_call 49; refine (areKinds_calls _ _ os _ (h.out.gr (by (repeat (with_reducible first | exact Gr.refl _ | assumption | refine Gr.alloc ?_ _ | refine Gr.drew ?_ | refine Gr.drewN ?_ _ | refine Gr.trans ?_ (by assumption))); done))).mono ?_; rintro e w9 ⟨rfl, hg9⟩)))
                      go_ret
                      exact ⟨by simp [isDHCP, hd0, hd1, hd2, hd3, hd4, hd5, hd6, hc7, hc8, hc9], (by (repeat (with_reducible first | exact Gr.refl _ | assumption | refine Gr.alloc ?_ _ | refine Gr.drew ?_ | refine Gr.drewN ?_ _ | refine Gr.trans ?_ (by assumption))); done)⟩
                    | true =>
                      cases hc10 : (upto xd 4294967295 : Bool) with
                      | false =>
                        go_enter Try.func20, Try.ntmps20
                        go_wp2_with ((first | (go_at_call 39; refine (upTo_calls _ _ _).mono ?_; rintro e w9 ⟨rfl, rfl⟩) | (go_at_call 49; refine (areKinds_calls _ _ os _ (h.out.gr (by (repeat (with_reducible first | exact Gr.refl _ | assumption | refine Gr.alloc ?_ _ | refine Gr.drew ?_ | refine Gr.drewN ?_ _ | refine Gr.trans ?_ (by assumption))); done))).mono ?_; rintro e w9 ⟨rfl, hg9⟩)))
                        go_ret
                        exact ⟨by simp [isDHCP, hd0, hd1, hd2, hd3, hd4, hd5, hd6, hc7, hc8, hc9, hc10], (by (repeat (with_reducible first | exact Gr.refl _ | assumption | refine Gr.alloc ?_ _ | refine Gr.drew ?_ | refine Gr.drewN ?_ _ | refine Gr.trans ?_ (by assumption))); done)⟩
                      | true =>
                        cases hc11 : (upto sc 65535 : Bool) with
                        | false =>
                          go_enter Try.func20, Try.ntmps20
                          go_wp2_with ((first | (go_at_call 39; refine (upTo_calls _ _ _).mono ?_; rintro e w9 ⟨rfl, rfl⟩) | (go_at_call 49; refine (areKinds_calls _ _ os _ (h.out.gr (by (repeat (with_reducible first | exact Gr.refl _ | assumption | refine Gr.alloc ?_ _ | refine Gr.drew ?_ | refine Gr.drewN ?_ _ | refine Gr.trans ?_ (by assumption))); done))).mono ?_; rintro e w9 ⟨rfl, hg9⟩)))
                          go_ret
                          exact ⟨by simp [isDHCP, hd0, hd1, hd2, hd3, hd4, hd5, hd6, hc7, hc8, hc9, hc10, hc11], (by (repeat (with_reducible first | exact Gr.refl _ | assumption | refine Gr.alloc ?_ _ | refine Gr.drew ?_ | refine Gr.drewN ?_ _ | refine Gr.trans ?_ (by assumption))); done)⟩
                        | true =>
                          cases hc12 : (upto fl 65535 : Bool) with
                          | false =>
                            go_enter Try.func20, Try.ntmps20
                            go_wp2_with ((first | (go_at_call 39; refine (upTo_calls _ _ _).mono ?_; rintro e w9 ⟨rfl, rfl⟩) | (go_at_call 49; refine (areKinds_calls _ _ os _ (h.out.gr (by (repeat (with_reducible first | exact Gr.refl _ | assumption | refine Gr.alloc ?_ _ | refine Gr.drew ?_ | refine Gr.drewN ?_ _ | refine Gr.trans ?_ (by assumption))); done))).mono ?_; rintro e w9 ⟨rfl, hg9⟩)))
                            go_ret
                            exact ⟨by simp [isDHCP, hd0, hd1, hd2, hd3, hd4, hd5, hd6, hc7, hc8, hc9, hc10, hc11, hc12], (by (repeat (with_reducible first | exact Gr.refl _ | assumption | refine Gr.alloc ?_ _ | refine Gr.drew ?_ | refine Gr.drewN ?_ _ | refine Gr.trans ?_ (by assumption))); done)⟩
                          | true =>
                            cases hc13 : (kindsOk 254 os : Bool) with
                            | false =>
                              go_enter Try.func20, Try.ntmps20
                              go_wp2_with ((first | (go_at_call 39; refine (upTo_calls _ _ _).mono ?_; rintro e w9 ⟨rfl, rfl⟩) | (go_at_call 49; refine (areKinds_calls _ _ os _ (h.out.gr (by (repeat (with_reducible first | exact Gr.refl _ | assumption | refine Gr.alloc ?_ _ | refine Gr.drew ?_ | refine Gr.drewN ?_ _ | refine Gr.trans ?_ (by assumption))); done))).mono ?_; rintro e w9 ⟨rfl, hg9⟩)))
                              go_ret
                              exact ⟨by simp [isDHCP, hd0, hd1, hd2, hd3, hd4, hd5, hd6, hc7, hc8, hc9, hc10, hc11, hc12, hc13], (by (repeat (with_reducible first | exact Gr.refl _ | assumption | refine Gr.alloc ?_ _ | refine Gr.drew ?_ | refine Gr.drewN ?_ _ | refine Gr.trans ?_ (by assumption))); done)⟩
                            | true =>
                              go_enter Try.func20, Try.ntmps20
                              go_wp2_with ((first | (go_at_call 39; refine (upTo_calls _ _ _).mono ?_; rintro e w9 ⟨rfl, rfl⟩) | (go_at_call 49; refine (areKinds_calls _ _ os _ (h.out.gr (by (repeat (with_reducible first | exact Gr.refl _ | assumption | refine Gr.alloc ?_ _ | refine Gr.drew ?_ | refine Gr.drewN ?_ _ | refine Gr.trans ?_ (by assumption))); done))).mono ?_; rintro e w9 ⟨rfl, hg9⟩)))
                              go_ret
                              exact ⟨by simp [isDHCP, hd0, hd1, hd2, hd3, hd4, hd5, hd6, hc7, hc8, hc9, hc10, hc11, hc12, hc13], (by (repeat (with_reducible first | exact Gr.refl _ | assumption | refine Gr.alloc ?_ _ | refine Gr.drew ?_ | refine Gr.drewN ?_ _ | refine Gr.trans ?_ (by assumption))); done)⟩

/-- the message's bytes -/
def dhcpB (op hw hp xd sc fl : Int) (l1 l2 l3 l4 l5 l6 l7 : List Int) (os : List Opt) : List Int := [[[[op, hw, (l5.length : Int), hp], lo xd, sh sc, sh fl, l1, l2, l3, l4].flatten, padB l5 16, padB l6 64, padB l7 128].flatten, [99, 130, 83, 99], typedB os, [255]].flatten
theorem padded16 (v : Value) (r : List Int) (w : World) (h : IsB w v r) (hr : r.length ≤ 100000) : Calls Try.prog 54 #[v, .int .i64 16] w (RetB w (padB r 16)) := padded_calls v r 16 w h (by omega) hr
theorem padded64 (v : Value) (r : List Int) (w : World) (h : IsB w v r) (hr : r.length ≤ 100000) : Calls Try.prog 54 #[v, .int .i64 64] w (RetB w (padB r 64)) := padded_calls v r 64 w h (by omega) hr
theorem padded128 (v : Value) (r : List Int) (w : World) (h : IsB w v r) (hr : r.length ≤ 100000) : Calls Try.prog 54 #[v, .int .i64 128] w (RetB w (padB r 128)) := padded_calls v r 128 w h (by omega) hr
theorem lit1_gr {w w' : World} {x : Int} {b : Nat} (hg : Gr (w.alloc (.cells #[.int .u8 x] 5)) w') (hb : b = w.heap.size) (hx : 0 ≤ x ∧ x ≤ 255) : IsB w' (.slice (some ⟨b, 0, none⟩) 1 1) [x] := (lit1_at w x b hb hx).gr hg
theorem padB_len (l : List Int) (n : Nat) (h : l.length ≤ n) : (padB l n).length = n := by unfold padB; rw [List.length_append, List.length_replicate]; omega
theorem padB_padB (l : List Int) (n : Nat) (h : l.length ≤ n) : padB (padB l n) n = padB l n := by
  unfold padB
  rw [List.length_append, List.length_replicate, show n - (l.length + (n - l.length)) = 0 by omega]
  simp

set_option maxRecDepth 100000 in
set_option maxHeartbeats 4000000 in
theorem dhcpB_calls (op hw hp xd sc fl : Int) (a1 : Option Addr) (n1 c1 : Nat) (a2 : Option Addr) (n2 c2 : Nat) (a3 : Option Addr) (n3 c3 : Nat) (a4 : Option Addr) (n4 c4 : Nat) (a5 : Option Addr) (n5 c5 : Nat) (a6 : Option Addr) (n6 c6 : Nat) (a7 : Option Addr) (n7 c7 : Nat) (ao : Option Addr) (no co : Nat) (l1 l2 l3 l4 l5 l6 l7 : List Int) (os : List Opt) (w : World) (h1 : IsB w (.slice a1 n1 c1) l1) (h2 : IsB w (.slice a2 n2 c2) l2) (h3 : IsB w (.slice a3 n3 c3) l3) (h4 : IsB w (.slice a4 n4 c4) l4) (h5 : IsB w (.slice a5 n5 c5) l5) (h6 : IsB w (.slice a6 n6 c6) l6) (h7 : IsB w (.slice a7 n7 c7) l7) (h0 : IsOpts w (.slice ao no co) os) (hl : (typedB os).length ≤ 50000) (hl4 : l1.length ≤ 100 ∧ l2.length ≤ 100 ∧ l3.length ≤ 100 ∧ l4.length ≤ 100) (hl5 : l5.length ≤ 16 ∧ l6.length ≤ 64 ∧ l7.length ≤ 128) (hop : 0 ≤ op ∧ op ≤ 255) (hhw : 0 ≤ hw ∧ hw ≤ 255) (hhp : 0 ≤ hp ∧ hp ≤ 255) :
    Calls Try.prog 22 #[.agg #[.int .i64 op, .int .i64 hw, .int .i64 hp, .int .i64 xd, .int .i64 sc, .int .i64 fl, .slice a1 n1 c1, .slice a2 n2 c2, .slice a3 n3 c3, .slice a4 n4 c4, .slice a5 n5 c5, .slice a6 n6 c6, .slice a7 n7 c7, .slice ao no co]] w (RetB w (dhcpB op hw hp xd sc fl l1 l2 l3 l4 l5 l6 l7 os)) := by
  have g1 := fun ty => h1.len (P := Try.prog) 25 ty 5 Try.underlying25
  have g2 := fun ty => h2.len (P := Try.prog) 25 ty 5 Try.underlying25
  have g3 := fun ty => h3.len (P := Try.prog) 25 ty 5 Try.underlying25
  have g4 := fun ty => h4.len (P := Try.prog) 25 ty 5 Try.underlying25
  have g5 := fun ty => h5.len (P := Try.prog) 25 ty 5 Try.underlying25
  have g6 := fun ty => h6.len (P := Try.prog) 25 ty 5 Try.underlying25
  have g7 := fun ty => h7.len (P := Try.prog) 25 ty 5 Try.underlying25
  have h := Lib.hid h0
  have X1 := Lib.hid h1
  have X2 := Lib.hid h2
  have X3 := Lib.hid h3
  have X4 := Lib.hid h4
  have X5 := Lib.hid h5
  have X6 := Lib.hid h6
  have X7 := Lib.hid h7
  have HL := Lib.hid hl
  have z1 : IntKind.u8.wrap op = op := by simp [IntKind.wrap, IntKind.bits, IntKind.signed]; omega
  have z2 : IntKind.u8.wrap hw = hw := by simp [IntKind.wrap, IntKind.bits, IntKind.signed]; omega
  have z3 : IntKind.u8.wrap hp = hp := by simp [IntKind.wrap, IntKind.bits, IntKind.signed]; omega
  have z4 : IntKind.u8.wrap (l5.length : Int) = (l5.length : Int) := by simp [IntKind.wrap, IntKind.bits, IntKind.signed]; omega
  have HU := Lib.hid (show (0 ≤ op ∧ op ≤ 255) ∧ (0 ≤ hw ∧ hw ≤ 255) ∧ (0 ≤ (l5.length : Int) ∧ (l5.length : Int) ≤ 255) ∧ (0 ≤ hp ∧ hp ≤ 255) by omega)
  have HN := Lib.hid (show (l5.length ≤ 100000 ∧ l6.length ≤ 100000 ∧ l7.length ≤ 100000) ∧ (padB l5 16).length = 16 ∧ (padB l6 64).length = 64 ∧ (padB l7 128).length = 128 from ⟨by omega, padB_len _ _ (by omega), padB_len _ _ (by omega), padB_len _ _ (by omega)⟩)
  obtain ⟨B2, hB2⟩ : ∃ B2, B2 = [[op, hw, (l5.length : Int), hp], lo xd, sh sc, sh fl, l1, l2, l3, l4].flatten := ⟨_, rfl⟩
  obtain ⟨B3, hB3⟩ : ∃ B3, B3 = [B2, padB l5 16, padB l6 64, padB l7 128].flatten := ⟨_, rfl⟩
  have HL2 := Lib.hid (show B2.length ≤ 1000 by rw [hB2]; simp [sh, lo]; omega)
  have HL3 := Lib.hid (show B3.length ≤ 2000 by rw [hB3]; have := HN.out.2; have := HL2.out; simp; omega)
  have HB2 := Lib.hid hB2
  have HB3 := Lib.hid hB3
  have HP1 := Lib.hid (show [[op, hw, (l5.length : Int), hp], lo xd, sh sc, sh fl, l1, l2, l3, l4].flatten.length ≤ 70368744177664 by rw [← hB2]; have := HL2.out; omega)
  clear h0 h1 h2 h3 h4 h5 h6 h7 hl hl4 hl5 hop hhw hhp hB2 hB3
  go_enter Try.func22, Try.ntmps22
  go_wp2_with fail
  go_region_held3 (fun w' => w'.cell? ⟨w.heap.size, 3, none⟩ = some (.int .i64 xd) ∧ w'.cell? ⟨w.heap.size, 4, none⟩ = some (.int .i64 sc) ∧ w'.cell? ⟨w.heap.size, 5, none⟩ = some (.int .i64 fl) ∧ w'.cell? ⟨w.heap.size, 6, none⟩ = some (.slice a1 n1 c1) ∧ w'.cell? ⟨w.heap.size, 7, none⟩ = some (.slice a2 n2 c2) ∧ w'.cell? ⟨w.heap.size, 8, none⟩ = some (.slice a3 n3 c3) ∧ w'.cell? ⟨w.heap.size, 9, none⟩ = some (.slice a4 n4 c4)) (first | exact And.imp (Gr.cell hg9) (And.imp (Gr.cell hg9) (And.imp (Gr.cell hg9) (And.imp (Gr.cell hg9) (And.imp (Gr.cell hg9) (And.imp (Gr.cell hg9) (Gr.cell hg9)))))) (by assumption) | exact And.imp (Gr.cell ((Gr.refl _).alloc _)) (And.imp (Gr.cell ((Gr.refl _).alloc _)) (And.imp (Gr.cell ((Gr.refl _).alloc _)) (And.imp (Gr.cell ((Gr.refl _).alloc _)) (And.imp (Gr.cell ((Gr.refl _).alloc _)) (And.imp (Gr.cell ((Gr.refl _).alloc _)) (Gr.cell ((Gr.refl _).alloc _))))))) (by assumption) | go_keep) (first
    | (go_at_call 47; refine (long_calls _ _).mono ?_; rintro e w9 ⟨_, _, _, rfl, ho9, hg9⟩; have hb9 := ho9.isB)
    | (go_at_call 46; refine (short_calls _ _).mono ?_; rintro e w9 ⟨_, _, _, rfl, ho9, hg9⟩; have hb9 := ho9.isB)
    | (go_at_call 15; refine (joined_calls _ [[op, hw, (l5.length : Int), hp], lo xd, sh sc, sh fl, l1, l2, l3, l4] _ (isBs_at _ _ [[op, hw, (l5.length : Int), hp], lo xd, sh sc, sh fl, l1, l2, l3, l4] _ (Reads.cons (lit4_gr (by (repeat (with_reducible first | exact Gr.refl _ | assumption | refine Gr.alloc ?_ _ | refine Gr.drew ?_ | refine Gr.drewN ?_ _ | refine Gr.trans ?_ (by assumption))); done) (by simp) HU.out.1 HU.out.2.1 HU.out.2.2.1 HU.out.2.2.2) (Reads.cons (IsB.gr (by assumption) (by (repeat (with_reducible first | exact Gr.refl _ | assumption | refine Gr.alloc ?_ _ | refine Gr.drew ?_ | refine Gr.drewN ?_ _ | refine Gr.trans ?_ (by assumption))); done)) (Reads.cons (IsB.gr (by assumption) (by (repeat (with_reducible first | exact Gr.refl _ | assumption | refine Gr.alloc ?_ _ | refine Gr.drew ?_ | refine Gr.drewN ?_ _ | refine Gr.trans ?_ (by assumption))); done)) (Reads.cons (IsB.gr (by assumption) (by (repeat (with_reducible first | exact Gr.refl _ | assumption | refine Gr.alloc ?_ _ | refine Gr.drew ?_ | refine Gr.drewN ?_ _ | refine Gr.trans ?_ (by assumption))); done)) (Reads.cons (IsB.gr X1.out (by (repeat (with_reducible first | exact Gr.refl _ | assumption | refine Gr.alloc ?_ _ | refine Gr.drew ?_ | refine Gr.drewN ?_ _ | refine Gr.trans ?_ (by assumption))); done)) (Reads.cons (IsB.gr X2.out (by (repeat (with_reducible first | exact Gr.refl _ | assumption | refine Gr.alloc ?_ _ | refine Gr.drew ?_ | refine Gr.drewN ?_ _ | refine Gr.trans ?_ (by assumption))); done)) (Reads.cons (IsB.gr X3.out (by (repeat (with_reducible first | exact Gr.refl _ | assumption | refine Gr.alloc ?_ _ | refine Gr.drew ?_ | refine Gr.drewN ?_ _ | refine Gr.trans ?_ (by assumption))); done)) (Reads.cons (IsB.gr X4.out (by (repeat (with_reducible first | exact Gr.refl _ | assumption | refine Gr.alloc ?_ _ | refine Gr.drew ?_ | refine Gr.drewN ?_ _ | refine Gr.trans ?_ (by assumption))); done)) (Reads.nil _))))))))) _ rfl _ (by simp)) HP1.out (by simp)).mono ?_; rintro e w9 ⟨_, _, _, rfl, ho9, hg9⟩; have hb9 := ho9.isB; rw [← HB2.out] at hb9; have HW := Lib.hid (show Gr w w9 from (by (repeat (with_reducible first | exact Gr.refl _ | assumption | refine Gr.alloc ?_ _ | refine Gr.drew ?_ | refine Gr.drewN ?_ _ | refine Gr.trans ?_ (by assumption))); done)); have HWB := Lib.hid (show Gr (w.alloc (.cells [.int .i64 op, .int .i64 hw, .int .i64 hp, .int .i64 xd, .int .i64 sc, .int .i64 fl, .slice a1 n1 c1, .slice a2 n2 c2, .slice a3 n3 c3, .slice a4 n4 c4, .slice a5 n5 c5, .slice a6 n6 c6, .slice a7 n7 c7, .slice ao no co].toArray 37)) w9 from (by (repeat (with_reducible first | exact Gr.refl _ | assumption | refine Gr.alloc ?_ _ | refine Gr.drew ?_ | refine Gr.drewN ?_ _ | refine Gr.trans ?_ (by assumption))); done))))
  go_wp2_with fail
  have hcB := (Gr.boxed HWB.out).2
  have k10 := hcB 10
  have k11 := hcB 11
  have k12 := hcB 12
  have HBD := Lib.hid hb9
  clear hcB hg9 ho9
  go_region_held3 (fun w' => w'.cell? ⟨w.heap.size, 10, none⟩ = some (.slice a5 n5 c5) ∧ w'.cell? ⟨w.heap.size, 11, none⟩ = some (.slice a6 n6 c6) ∧ w'.cell? ⟨w.heap.size, 12, none⟩ = some (.slice a7 n7 c7)) (first | exact ⟨k10, k11, k12⟩ | exact And.imp (Gr.cell hg8) (And.imp (Gr.cell hg8) (Gr.cell hg8)) (by assumption) | exact And.imp (Gr.cell hg7) (And.imp (Gr.cell hg7) (Gr.cell hg7)) (by assumption) | exact And.imp (Gr.cell hg6) (And.imp (Gr.cell hg6) (Gr.cell hg6)) (by assumption) | exact And.imp (Gr.cell hg5) (And.imp (Gr.cell hg5) (Gr.cell hg5)) (by assumption) | exact And.imp (Gr.cell ((Gr.refl _).alloc _)) (And.imp (Gr.cell ((Gr.refl _).alloc _)) (Gr.cell ((Gr.refl _).alloc _))) (by assumption) | go_keep) (first
    | (go_at_call_of 54 (Value.slice a5 n5 c5); refine (padded16 _ l5 _ (X5.out.gr (HW.out.trans (by (repeat (with_reducible first | exact Gr.refl _ | assumption | refine Gr.alloc ?_ _ | refine Gr.drew ?_ | refine Gr.drewN ?_ _ | refine Gr.trans ?_ (by assumption))); done))) HN.out.1.1).mono ?_; rintro e w5 ⟨_, _, _, rfl, ho5, hg5⟩; have hb5 := ho5.isB)
    | (go_at_call_of 54 (Value.slice a6 n6 c6); refine (padded64 _ l6 _ (X6.out.gr (HW.out.trans (by (repeat (with_reducible first | exact Gr.refl _ | assumption | refine Gr.alloc ?_ _ | refine Gr.drew ?_ | refine Gr.drewN ?_ _ | refine Gr.trans ?_ (by assumption))); done))) HN.out.1.2.1).mono ?_; rintro e w6 ⟨_, _, _, rfl, ho6, hg6⟩; have hb6 := ho6.isB)
    | (go_at_call_of 54 (Value.slice a7 n7 c7); refine (padded128 _ l7 _ (X7.out.gr (HW.out.trans (by (repeat (with_reducible first | exact Gr.refl _ | assumption | refine Gr.alloc ?_ _ | refine Gr.drew ?_ | refine Gr.drewN ?_ _ | refine Gr.trans ?_ (by assumption))); done))) HN.out.1.2.2).mono ?_; rintro e w7 ⟨_, _, _, rfl, ho7, hg7⟩; have hb7 := ho7.isB)
    | (go_at_call 15; refine (joined_calls _ [B2, padB l5 16, padB l6 64, padB l7 128] _ (isBs_at _ _ [B2, padB l5 16, padB l6 64, padB l7 128] _ (Reads.cons (IsB.gr HBD.out (by (repeat (with_reducible first | exact Gr.refl _ | assumption | refine Gr.alloc ?_ _ | refine Gr.drew ?_ | refine Gr.drewN ?_ _ | refine Gr.trans ?_ (by assumption))); done)) (Reads.cons (IsB.gr hb5 (by (repeat (with_reducible first | exact Gr.refl _ | assumption | refine Gr.alloc ?_ _ | refine Gr.drew ?_ | refine Gr.drewN ?_ _ | refine Gr.trans ?_ (by assumption))); done)) (Reads.cons (IsB.gr hb6 (by (repeat (with_reducible first | exact Gr.refl _ | assumption | refine Gr.alloc ?_ _ | refine Gr.drew ?_ | refine Gr.drewN ?_ _ | refine Gr.trans ?_ (by assumption))); done)) (Reads.cons (IsB.gr hb7 (by (repeat (with_reducible first | exact Gr.refl _ | assumption | refine Gr.alloc ?_ _ | refine Gr.drew ?_ | refine Gr.drewN ?_ _ | refine Gr.trans ?_ (by assumption))); done)) (Reads.nil _))))) _ rfl _ (by simp)) (by rw [← HB3.out]; have := HL3.out; omega) (by simp)).mono ?_; rintro e w8 ⟨_, _, _, rfl, ho8, hg8⟩; have hb8 := ho8.isB; rw [← HB3.out] at hb8; have HW8 := Lib.hid (HW.out.trans (show Gr w9 w8 from (by (repeat (with_reducible first | exact Gr.refl _ | assumption | refine Gr.alloc ?_ _ | refine Gr.drew ?_ | refine Gr.drewN ?_ _ | refine Gr.trans ?_ (by assumption))); done))); have HWB8 := Lib.hid (HWB.out.trans (show Gr w9 w8 from (by (repeat (with_reducible first | exact Gr.refl _ | assumption | refine Gr.alloc ?_ _ | refine Gr.drew ?_ | refine Gr.drewN ?_ _ | refine Gr.trans ?_ (by assumption))); done)))))
  obtain ⟨hs8, hc8⟩ := Gr.boxed HWB8.out
  have HBE := Lib.hid hb8
  clear hg8 ho8 hb5 hb6 hb7
  go_wp2_with (first
    | (go_at_call 55; refine (typed_calls _ os _ (h.out.gr (HW8.out.trans (by (repeat (with_reducible first | exact Gr.refl _ | assumption | refine Gr.alloc ?_ _ | refine Gr.drew ?_ | refine Gr.drewN ?_ _ | refine Gr.trans ?_ (by assumption))); done))) (by have := HL.out; omega)).mono ?_; rintro e wT ⟨_, _, _, rfl, hoT, hgT⟩; have hbT := hoT.isB)
    | (go_at_call 15; refine (joined_calls _ [B3, [99, 130, 83, 99], typedB os, [255]] _ (isBs_at _ _ [B3, [99, 130, 83, 99], typedB os, [255]] _ (Reads.cons (IsB.gr HBE.out (by (repeat (with_reducible first | exact Gr.refl _ | assumption | refine Gr.alloc ?_ _ | refine Gr.drew ?_ | refine Gr.drewN ?_ _ | refine Gr.trans ?_ (by assumption))); done)) (Reads.cons (lit4_gr (by (repeat (with_reducible first | exact Gr.refl _ | assumption | refine Gr.alloc ?_ _ | refine Gr.drew ?_ | refine Gr.drewN ?_ _ | refine Gr.trans ?_ (by assumption))); done) (by simp) (by omega) (by omega) (by omega) (by omega)) (Reads.cons (IsB.gr hbT (by (repeat (with_reducible first | exact Gr.refl _ | assumption | refine Gr.alloc ?_ _ | refine Gr.drew ?_ | refine Gr.drewN ?_ _ | refine Gr.trans ?_ (by assumption))); done)) (Reads.cons (lit1_gr (by (repeat (with_reducible first | exact Gr.refl _ | assumption | refine Gr.alloc ?_ _ | refine Gr.drew ?_ | refine Gr.drewN ?_ _ | refine Gr.trans ?_ (by assumption))); done) (by simp) (by omega)) (Reads.nil _))))) _ rfl _ (by simp)) (by have := HL3.out; have := HL.out; simp; omega) (by simp)).mono ?_; rintro e wJ ⟨_, _, _, rfl, hoJ, hgJ⟩))
  go_ret
  unfold dhcpB
  rw [← HB2.out, ← HB3.out]
  exact RetB.after (HW8.out.trans (by (repeat (with_reducible first | exact Gr.refl _ | assumption | refine Gr.alloc ?_ _ | refine Gr.drew ?_ | refine Gr.drewN ?_ _ | refine Gr.trans ?_ (by assumption))); done)) hoJ hgJ

end Go.Proofs.Ytdpffedmgmllbaa
