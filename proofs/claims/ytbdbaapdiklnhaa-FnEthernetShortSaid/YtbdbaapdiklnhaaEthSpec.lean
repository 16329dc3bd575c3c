/-
  The header of a frame: the law's own functions.
-/
import Derived.Test.YtbdbaapdiklnhaaBase
import Derived.Deep.RegionHeld3
import Derived.Deep.RegionWith
namespace Go.Proofs.Ytbdbaapdiklnhaa
open Go.RowKit

def zz1 (ls ld : List Int) : Bool := decide ((ls.length : Int) ≤ 2147483647) && decide ((ld.length : Int) ≤ 2147483647)

set_option maxRecDepth 100000 in
set_option maxHeartbeats 1000000 in
theorem zz1_calls (a0 : Option Addr) (n0 c0 : Nat) (a1 : Option Addr) (n1 c1 : Nat) (ls ld : List Int) (t len : Int) (w : World) (hs : IsB w (.slice a0 n0 c0) ls) (hd : IsB w (.slice a1 n1 c1) ld) :
    Calls Try.prog 25 #[.agg #[.slice a0 n0 c0, .slice a1 n1 c1, .int .i64 t, .int .i64 len]] w fun e w' => e = .returned (.bool (zz1 ls ld)) ∧ Gr w w' := by
  have g0 := fun ty => hs.len (P := Try.prog) 24 ty 5 Try.underlying24
  have g1 := fun ty => hd.len (P := Try.prog) 24 ty 5 Try.underlying24
  by_cases hc0 : (ls.length : Int) ≤ 2147483647
  case neg =>
    have hd0 := decide_eq_false hc0
    go_enter Try.func25, Try.ntmps25
    go_wp2_with (fail)
    go_ret
    exact ⟨by simp [zz1, hd0], (by repeat (with_reducible first | exact Gr.refl _ | assumption | refine Gr.alloc ?_ _ | refine Gr.drew ?_ | refine Gr.drewN ?_ _ | refine Gr.trans ?_ (by assumption)))⟩
  case pos =>
    have hd0 := decide_eq_true hc0
    by_cases hc1 : (ld.length : Int) ≤ 2147483647
    case neg =>
      have hd1 := decide_eq_false hc1
      go_enter Try.func25, Try.ntmps25
      go_wp2_with (fail)
      go_ret
      exact ⟨by simp [zz1, hd0, hd1], (by repeat (with_reducible first | exact Gr.refl _ | assumption | refine Gr.alloc ?_ _ | refine Gr.drew ?_ | refine Gr.drewN ?_ _ | refine Gr.trans ?_ (by assumption)))⟩
    case pos =>
      have hd1 := decide_eq_true hc1
      go_enter Try.func25, Try.ntmps25
      go_wp2_with (fail)
      go_ret
      exact ⟨by simp [zz1, hd0, hd1], (by repeat (with_reducible first | exact Gr.refl _ | assumption | refine Gr.alloc ?_ _ | refine Gr.drew ?_ | refine Gr.drewN ?_ _ | refine Gr.trans ?_ (by assumption)))⟩

def isEth (ls ld : List Int) (t len : Int) : Bool := ((ls.length : Int) == 6) && ((ld.length : Int) == 6) && decide (1536 ≤ t) && decide (t ≤ 65535) && (len == 0)

set_option maxRecDepth 100000 in
set_option maxHeartbeats 1000000 in
theorem isEth_calls (a0 : Option Addr) (n0 c0 : Nat) (a1 : Option Addr) (n1 c1 : Nat) (ls ld : List Int) (t len : Int) (w : World) (hs : IsB w (.slice a0 n0 c0) ls) (hd : IsB w (.slice a1 n1 c1) ld) :
    Calls Try.prog 26 #[.agg #[.slice a0 n0 c0, .slice a1 n1 c1, .int .i64 t, .int .i64 len]] w fun e w' => e = .returned (.bool (isEth ls ld t len)) ∧ Gr w w' := by
  have g0 := fun ty => hs.len (P := Try.prog) 24 ty 5 Try.underlying24
  have g1 := fun ty => hd.len (P := Try.prog) 24 ty 5 Try.underlying24
  cases hc0 : (((ls.length : Int) == 6) : Bool) with
  | false =>
    go_enter Try.func26, Try.ntmps26
    go_wp2_with (fail)
    go_ret
    exact ⟨by simp [isEth, hc0], (by repeat (with_reducible first | exact Gr.refl _ | assumption | refine Gr.alloc ?_ _ | refine Gr.drew ?_ | refine Gr.drewN ?_ _ | refine Gr.trans ?_ (by assumption)))⟩
  | true =>
    cases hc1 : (((ld.length : Int) == 6) : Bool) with
    | false =>
      go_enter Try.func26, Try.ntmps26
      go_wp2_with (fail)
      go_ret
      exact ⟨by simp [isEth, hc0, hc1], (by repeat (with_reducible first | exact Gr.refl _ | assumption | refine Gr.alloc ?_ _ | refine Gr.drew ?_ | refine Gr.drewN ?_ _ | refine Gr.trans ?_ (by assumption)))⟩
    | true =>
      by_cases hc2 : 1536 ≤ t
      case neg =>
        have hd2 := decide_eq_false hc2
        go_enter Try.func26, Try.ntmps26
        go_wp2_with (fail)
        go_ret
        exact ⟨by simp [isEth, hc0, hc1, hd2], (by repeat (with_reducible first | exact Gr.refl _ | assumption | refine Gr.alloc ?_ _ | refine Gr.drew ?_ | refine Gr.drewN ?_ _ | refine Gr.trans ?_ (by assumption)))⟩
      case pos =>
        have hd2 := decide_eq_true hc2
        by_cases hc3 : t ≤ 65535
        case neg =>
          have hd3 := decide_eq_false hc3
          go_enter Try.func26, Try.ntmps26
          go_wp2_with (fail)
          go_ret
          exact ⟨by simp [isEth, hc0, hc1, hd2, hd3], (by repeat (with_reducible first | exact Gr.refl _ | assumption | refine Gr.alloc ?_ _ | refine Gr.drew ?_ | refine Gr.drewN ?_ _ | refine Gr.trans ?_ (by assumption)))⟩
        case pos =>
          have hd3 := decide_eq_true hc3
          cases hc4 : ((len == 0) : Bool) with
          | false =>
            go_enter Try.func26, Try.ntmps26
            go_wp2_with (fail)
            go_ret
            exact ⟨by simp [isEth, hc0, hc1, hd2, hd3, hc4], (by repeat (with_reducible first | exact Gr.refl _ | assumption | refine Gr.alloc ?_ _ | refine Gr.drew ?_ | refine Gr.drewN ?_ _ | refine Gr.trans ?_ (by assumption)))⟩
          | true =>
            go_enter Try.func26, Try.ntmps26
            go_wp2_with (fail)
            go_ret
            exact ⟨by simp [isEth, hc0, hc1, hd2, hd3, hc4], (by repeat (with_reducible first | exact Gr.refl _ | assumption | refine Gr.alloc ?_ _ | refine Gr.drew ?_ | refine Gr.drewN ?_ _ | refine Gr.trans ?_ (by assumption)))⟩

def eth (ls ld : List Int) (t : Int) : List Int := [ld, ls, sh t].flatten

set_option maxRecDepth 100000 in
set_option maxHeartbeats 1000000 in
theorem eth_calls (a0 : Option Addr) (n0 c0 : Nat) (a1 : Option Addr) (n1 c1 : Nat) (ls ld : List Int) (t len : Int) (w : World) (hs : IsB w (.slice a0 n0 c0) ls) (hd : IsB w (.slice a1 n1 c1) ld) (h6 : ls.length = 6) (h7 : ld.length = 6) :
    Calls Try.prog 28 #[.agg #[.slice a0 n0 c0, .slice a1 n1 c1, .int .i64 t, .int .i64 len]] w (RetB w (eth ls ld t)) := by
  go_enter Try.func28, Try.ntmps28
  go_wp2_with fail
  go_region_held3 (fun w' => w'.cell? ⟨w.heap.size, 0, none⟩ = some (.slice a0 n0 c0) ∧ w'.cell? ⟨w.heap.size, 1, none⟩ = some (.slice a1 n1 c1) ∧ w'.cell? ⟨w.heap.size, 2, none⟩ = some (.int .i64 t)) (first | exact And.imp (Gr.cell (by assumption)) (And.imp (Gr.cell (by assumption)) (Gr.cell (by assumption))) (by assumption) | go_keep) (first
    | (go_at_call 62; refine (short_calls _ _).mono ?_; rintro e w9 ⟨_, _, _, rfl, ho9, hg9⟩; have hb9 := ho9.isB)
    | (go_at_call 18; refine (joined_calls _ [ld, ls, sh t] _ (isBs_lit _ _ [ld, ls, sh t] _ (Reads.cons (IsB.gr (by assumption) (by repeat (with_reducible first | exact Gr.refl _ | assumption | refine Gr.alloc ?_ _ | refine Gr.drew ?_ | refine Gr.drewN ?_ _ | refine Gr.trans ?_ (by assumption)))) (Reads.cons (IsB.gr (by assumption) (by repeat (with_reducible first | exact Gr.refl _ | assumption | refine Gr.alloc ?_ _ | refine Gr.drew ?_ | refine Gr.drewN ?_ _ | refine Gr.trans ?_ (by assumption)))) (Reads.cons (IsB.gr (by assumption) (by repeat (with_reducible first | exact Gr.refl _ | assumption | refine Gr.alloc ?_ _ | refine Gr.drew ?_ | refine Gr.drewN ?_ _ | refine Gr.trans ?_ (by assumption)))) (Reads.nil _)))) _ rfl) (by simp [sh]; omega) (by simp)).mono ?_; rintro e w9 ⟨_, _, _, rfl, ho9, hg9⟩))
  go_wp2
  go_ret
  exact RetB.after (by repeat (with_reducible first | exact Gr.refl _ | assumption | refine Gr.alloc ?_ _ | refine Gr.drew ?_ | refine Gr.drewN ?_ _ | refine Gr.trans ?_ (by assumption))) ho9 hg9

end Go.Proofs.Ytbdbaapdiklnhaa
