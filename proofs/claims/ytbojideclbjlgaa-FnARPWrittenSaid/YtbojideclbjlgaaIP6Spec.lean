/-
  A header of the sixth version: the law's own functions.
-/
import Derived.Test.YtbojideclbjlgaaLib2
import Derived.Test.YtbojideclbjlgaaLib3
import Derived.Test.YtbojideclbjlgaaBase
import Derived.Deep.RegionHeld3
import Derived.Deep.RegionWith
namespace Go.Proofs.Ytbojideclbjlgaa
open Go.RowKit

def zz6 (l1 l2 : List Int) : Bool := decide ((l1.length : Int) ≤ 2147483647) && decide ((l2.length : Int) ≤ 2147483647)

set_option maxRecDepth 100000 in
set_option maxHeartbeats 1000000 in
theorem zz6_calls (cl fl ln nx ho : Int) (a1 : Option Addr) (n1 c1 : Nat) (a2 : Option Addr) (n2 c2 : Nat) (l1 l2 : List Int) (w : World) (h1 : IsB w (.slice a1 n1 c1) l1) (h2 : IsB w (.slice a2 n2 c2) l2) :
    Calls Try.prog 53 #[.agg #[.int .i64 cl, .int .i64 fl, .int .i64 ln, .int .i64 nx, .int .i64 ho, .slice a1 n1 c1, .slice a2 n2 c2]] w fun e w' => e = .returned (.bool (zz6 l1 l2)) ∧ Gr w w' := by
  have g1 := fun ty => h1.len (P := Try.prog) 22 ty 5 Try.underlying22
  have g2 := fun ty => h2.len (P := Try.prog) 22 ty 5 Try.underlying22
  by_cases hc0 : (l1.length : Int) ≤ 2147483647
  case neg =>
    have hd0 := decide_eq_false hc0
    go_enter Try.func53, Try.ntmps53
    go_wp2_with (fail)
    go_ret
    exact ⟨by simp [zz6, hd0], (by (repeat (with_reducible first | exact Gr.refl _ | assumption | refine Gr.alloc ?_ _ | refine Gr.drew ?_ | refine Gr.drewN ?_ _ | refine Gr.trans ?_ (by assumption))); done)⟩
  case pos =>
    have hd0 := decide_eq_true hc0
    by_cases hc1 : (l2.length : Int) ≤ 2147483647
    case neg =>
      have hd1 := decide_eq_false hc1
      go_enter Try.func53, Try.ntmps53
      go_wp2_with (fail)
      go_ret
      exact ⟨by simp [zz6, hd0, hd1], (by (repeat (with_reducible first | exact Gr.refl _ | assumption | refine Gr.alloc ?_ _ | refine Gr.drew ?_ | refine Gr.drewN ?_ _ | refine Gr.trans ?_ (by assumption))); done)⟩
    case pos =>
      have hd1 := decide_eq_true hc1
      go_enter Try.func53, Try.ntmps53
      go_wp2_with (fail)
      go_ret
      exact ⟨by simp [zz6, hd0, hd1], (by (repeat (with_reducible first | exact Gr.refl _ | assumption | refine Gr.alloc ?_ _ | refine Gr.drew ?_ | refine Gr.drewN ?_ _ | refine Gr.trans ?_ (by assumption))); done)⟩

def isIPv6 (cl fl nx ho : Int) (l1 l2 : List Int) : Bool := ((l1.length : Int) == 16) && ((l2.length : Int) == 16) && upto cl 255 && upto fl 1048575 && decide (1 ≤ nx) && decide (nx ≤ 255) && upto ho 255

set_option maxRecDepth 100000 in
set_option maxHeartbeats 1000000 in
theorem isIPv6_calls (cl fl ln nx ho : Int) (a1 : Option Addr) (n1 c1 : Nat) (a2 : Option Addr) (n2 c2 : Nat) (l1 l2 : List Int) (w : World) (h1 : IsB w (.slice a1 n1 c1) l1) (h2 : IsB w (.slice a2 n2 c2) l2) :
    Calls Try.prog 54 #[.agg #[.int .i64 cl, .int .i64 fl, .int .i64 ln, .int .i64 nx, .int .i64 ho, .slice a1 n1 c1, .slice a2 n2 c2]] w fun e w' => e = .returned (.bool (isIPv6 cl fl nx ho l1 l2)) ∧ Gr w w' := by
  have g1 := fun ty => h1.len (P := Try.prog) 22 ty 5 Try.underlying22
  have g2 := fun ty => h2.len (P := Try.prog) 22 ty 5 Try.underlying22
  cases hc0 : (((l1.length : Int) == 16) : Bool) with
  | false =>
    go_enter Try.func54, Try.ntmps54
    go_wp2_with ((first | (go_at_call 66; refine (upTo_calls _ _ _).mono ?_; rintro e w9 ⟨rfl, rfl⟩)))
    go_ret
    exact ⟨by simp [isIPv6, hc0], (by (repeat (with_reducible first | exact Gr.refl _ | assumption | refine Gr.alloc ?_ _ | refine Gr.drew ?_ | refine Gr.drewN ?_ _ | refine Gr.trans ?_ (by assumption))); done)⟩
  | true =>
    cases hc1 : (((l2.length : Int) == 16) : Bool) with
    | false =>
      go_enter Try.func54, Try.ntmps54
      go_wp2_with ((first | (go_at_call 66; refine (upTo_calls _ _ _).mono ?_; rintro e w9 ⟨rfl, rfl⟩)))
      go_ret
      exact ⟨by simp [isIPv6, hc0, hc1], (by (repeat (with_reducible first | exact Gr.refl _ | assumption | refine Gr.alloc ?_ _ | refine Gr.drew ?_ | refine Gr.drewN ?_ _ | refine Gr.trans ?_ (by assumption))); done)⟩
    | true =>
      cases hc2 : (upto cl 255 : Bool) with
      | false =>
        go_enter Try.func54, Try.ntmps54
        go_wp2_with ((first | (go_at_call 66; refine (upTo_calls _ _ _).mono ?_; rintro e w9 ⟨rfl, rfl⟩)))
        go_ret
        exact ⟨by simp [isIPv6, hc0, hc1, hc2], (by (repeat (with_reducible first | exact Gr.refl _ | assumption | refine Gr.alloc ?_ _ | refine Gr.drew ?_ | refine Gr.drewN ?_ _ | refine Gr.trans ?_ (by assumption))); done)⟩
      | true =>
        cases hc3 : (upto fl 1048575 : Bool) with
        | false =>
          go_enter Try.func54, Try.ntmps54
          go_wp2_with ((first | (go_at_call 66; refine (upTo_calls _ _ _).mono ?_; rintro e w9 ⟨rfl, rfl⟩)))
          go_ret
          exact ⟨by simp [isIPv6, hc0, hc1, hc2, hc3], (by (repeat (with_reducible first | exact Gr.refl _ | assumption | refine Gr.alloc ?_ _ | refine Gr.drew ?_ | refine Gr.drewN ?_ _ | refine Gr.trans ?_ (by assumption))); done)⟩
        | true =>
          by_cases hc4 : 1 ≤ nx
          case neg =>
            have hd4 := decide_eq_false hc4
            go_enter Try.func54, Try.ntmps54
            go_wp2_with ((first | (go_at_call 66; refine (upTo_calls _ _ _).mono ?_; rintro e w9 ⟨rfl, rfl⟩)))
            go_ret
            exact ⟨by simp [isIPv6, hc0, hc1, hc2, hc3, hd4], (by (repeat (with_reducible first | exact Gr.refl _ | assumption | refine Gr.alloc ?_ _ | refine Gr.drew ?_ | refine Gr.drewN ?_ _ | refine Gr.trans ?_ (by assumption))); done)⟩
          case pos =>
            have hd4 := decide_eq_true hc4
            by_cases hc5 : nx ≤ 255
            case neg =>
              have hd5 := decide_eq_false hc5
              go_enter Try.func54, Try.ntmps54
              go_wp2_with ((first | (go_at_call 66; refine (upTo_calls _ _ _).mono ?_; rintro e w9 ⟨rfl, rfl⟩)))
              go_ret
              exact ⟨by simp [isIPv6, hc0, hc1, hc2, hc3, hd4, hd5], (by (repeat (with_reducible first | exact Gr.refl _ | assumption | refine Gr.alloc ?_ _ | refine Gr.drew ?_ | refine Gr.drewN ?_ _ | refine Gr.trans ?_ (by assumption))); done)⟩
            case pos =>
              have hd5 := decide_eq_true hc5
              cases hc6 : (upto ho 255 : Bool) with
              | false =>
                go_enter Try.func54, Try.ntmps54
                go_wp2_with ((first | (go_at_call 66; refine (upTo_calls _ _ _).mono ?_; rintro e w9 ⟨rfl, rfl⟩)))
                go_ret
                exact ⟨by simp [isIPv6, hc0, hc1, hc2, hc3, hd4, hd5, hc6], (by (repeat (with_reducible first | exact Gr.refl _ | assumption | refine Gr.alloc ?_ _ | refine Gr.drew ?_ | refine Gr.drewN ?_ _ | refine Gr.trans ?_ (by assumption))); done)⟩
              | true =>
                go_enter Try.func54, Try.ntmps54
                go_wp2_with ((first | (go_at_call 66; refine (upTo_calls _ _ _).mono ?_; rintro e w9 ⟨rfl, rfl⟩)))
                go_ret
                exact ⟨by simp [isIPv6, hc0, hc1, hc2, hc3, hd4, hd5, hc6], (by (repeat (with_reducible first | exact Gr.refl _ | assumption | refine Gr.alloc ?_ _ | refine Gr.drew ?_ | refine Gr.drewN ?_ _ | refine Gr.trans ?_ (by assumption))); done)⟩

def ip6 (cl fl nx ho n : Int) (l1 l2 : List Int) : List Int := [lo (1610612736 + cl * 1048576 + fl), sh n, [nx, ho], l1, l2].flatten

set_option maxRecDepth 100000 in
set_option maxHeartbeats 1000000 in
theorem ip6_calls (cl fl ln nx ho : Int) (a1 : Option Addr) (n1 c1 : Nat) (a2 : Option Addr) (n2 c2 : Nat) (n : Int) (l1 l2 : List Int) (w : World) (h1 : IsB w (.slice a1 n1 c1) l1) (h2 : IsB w (.slice a2 n2 c2) l2) (u1 : 0 ≤ cl ∧ cl ≤ 255) (u2 : 0 ≤ fl ∧ fl ≤ 1048575) (u3 : 1 ≤ nx ∧ nx ≤ 255) (u4 : 0 ≤ ho ∧ ho ≤ 255) (z1' : l1.length = 16) (z2' : l2.length = 16) :
    Calls Try.prog 56 #[.agg #[.int .i64 cl, .int .i64 fl, .int .i64 ln, .int .i64 nx, .int .i64 ho, .slice a1 n1 c1, .slice a2 n2 c2], .int .i64 n] w (RetB w (ip6 cl fl nx ho n l1 l2)) := by
  have g1 := fun ty => h1.len (P := Try.prog) 22 ty 5 Try.underlying22
  have g2 := fun ty => h2.len (P := Try.prog) 22 ty 5 Try.underlying22
  have q1 : IntKind.i64.wrap (cl * 1048576) = cl * 1048576 := w64 (by omega) (by omega)
  have e1 : bits .or .i64 1610612736 (cl * 1048576) = 1610612736 + cl * 1048576 := bor .i64 28 (by omega) (by omega) (by omega) (by omega) (by rw [max_i64]; omega)
  have e2 : bits .or .i64 (1610612736 + cl * 1048576) fl = 1610612736 + cl * 1048576 + fl := bor .i64 20 (by omega) (by omega) (by omega) (by omega) (by rw [max_i64]; omega)
  have z1 : IntKind.u8.wrap nx = nx := by simp [IntKind.wrap, IntKind.bits, IntKind.signed]; omega
  have z2 : IntKind.u8.wrap ho = ho := by simp [IntKind.wrap, IntKind.bits, IntKind.signed]; omega
  go_enter Try.func56, Try.ntmps56
  go_wp2_with fail
  go_region_held3 (fun w' => w'.cell? ⟨w.heap.size, 0, none⟩ = some (.int .i64 cl) ∧ w'.cell? ⟨w.heap.size, 1, none⟩ = some (.int .i64 fl) ∧ w'.cell? ⟨w.heap.size, 3, none⟩ = some (.int .i64 nx) ∧ w'.cell? ⟨w.heap.size, 4, none⟩ = some (.int .i64 ho) ∧ w'.cell? ⟨w.heap.size, 5, none⟩ = some (.slice a1 n1 c1) ∧ w'.cell? ⟨w.heap.size, 6, none⟩ = some (.slice a2 n2 c2)) (first | exact And.imp (Gr.cell (by assumption)) (And.imp (Gr.cell (by assumption)) (And.imp (Gr.cell (by assumption)) (And.imp (Gr.cell (by assumption)) (And.imp (Gr.cell (by assumption)) (Gr.cell (by assumption)))))) (by assumption) | go_keep) (first
    | (go_at_call 71; refine (long_calls _ _).mono ?_; rintro e w9 ⟨_, _, _, rfl, ho9, hg9⟩; have hb9 := ho9.isB)
    | (go_at_call 74; refine (short_calls _ _).mono ?_; rintro e w9 ⟨_, _, _, rfl, ho9, hg9⟩; have hb9 := ho9.isB)
    | (go_at_call 23; refine (joined_calls _ [lo (1610612736 + cl * 1048576 + fl), sh n, [nx, ho], l1, l2] _ (isBs_at _ _ [lo (1610612736 + cl * 1048576 + fl), sh n, [nx, ho], l1, l2] _ (Reads.cons (IsB.gr (by assumption) (by (repeat (with_reducible first | exact Gr.refl _ | assumption | refine Gr.alloc ?_ _ | refine Gr.drew ?_ | refine Gr.drewN ?_ _ | refine Gr.trans ?_ (by assumption))); done)) (Reads.cons (IsB.gr (by assumption) (by (repeat (with_reducible first | exact Gr.refl _ | assumption | refine Gr.alloc ?_ _ | refine Gr.drew ?_ | refine Gr.drewN ?_ _ | refine Gr.trans ?_ (by assumption))); done)) (Reads.cons (lit2_gr (by (repeat (with_reducible first | exact Gr.refl _ | assumption | refine Gr.alloc ?_ _ | refine Gr.drew ?_ | refine Gr.drewN ?_ _ | refine Gr.trans ?_ (by assumption))); done) (by simp) (by omega) (by omega)) (Reads.cons (IsB.gr (by assumption) (by (repeat (with_reducible first | exact Gr.refl _ | assumption | refine Gr.alloc ?_ _ | refine Gr.drew ?_ | refine Gr.drewN ?_ _ | refine Gr.trans ?_ (by assumption))); done)) (Reads.cons (IsB.gr (by assumption) (by (repeat (with_reducible first | exact Gr.refl _ | assumption | refine Gr.alloc ?_ _ | refine Gr.drew ?_ | refine Gr.drewN ?_ _ | refine Gr.trans ?_ (by assumption))); done)) (Reads.nil _)))))) _ rfl _ (by simp)) (by simp [sh, lo]; omega) (by simp)).mono ?_; rintro e w9 ⟨_, _, _, rfl, ho9, hg9⟩))
  go_wp2
  all_goals (go_ret; exact RetB.after (by (repeat (with_reducible first | exact Gr.refl _ | assumption | refine Gr.alloc ?_ _ | refine Gr.drew ?_ | refine Gr.drewN ?_ _ | refine Gr.trans ?_ (by assumption))); done) ho9 hg9)

end Go.Proofs.Ytbojideclbjlgaa
