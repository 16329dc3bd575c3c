/-
  The header of a packet of the fourth version as the reference has it.
-/
import Derived.Test.YtdpffedmgmllbaaOptsB
import Derived.Test.YtdpffedmgmllbaaRecs
import Derived.Test.YtdpffedmgmllbaaLib2
import Derived.Test.YtdpffedmgmllbaaLib3
import Derived.Test.YtdpffedmgmllbaaCk
import Derived.Deep.RegionHeld3
import Derived.Deep.RegionWith
import Derived.Deep.DeepCutAuto
namespace Go.Proofs.Ytdpffedmgmllbaa
open Go.RowKit

def zz3 (l1 l2 : List Int) (os : List Opt) : Bool := decide ((l1.length : Int) ≤ 2147483647) && decide ((l2.length : Int) ≤ 2147483647) && fitB os

set_option maxRecDepth 100000 in
set_option maxHeartbeats 1000000 in
theorem zz3_calls (wo sv ln idn fl fo tt pr ck : Int) (a1 : Option Addr) (n1 c1 : Nat) (a2 : Option Addr) (n2 c2 : Nat) (ao : Option Addr) (no co : Nat) (l1 l2 : List Int) (os : List Opt) (w : World) (h1 : IsB w (.slice a1 n1 c1) l1) (h2 : IsB w (.slice a2 n2 c2) l2) (h0 : IsOpts w (.slice ao no co) os) :
    Calls Try.prog 28 #[.agg #[.int .i64 wo, .int .i64 sv, .int .i64 ln, .int .i64 idn, .int .i64 fl, .int .i64 fo, .int .i64 tt, .int .i64 pr, .int .i64 ck, .slice a1 n1 c1, .slice a2 n2 c2, .slice ao no co]] w fun e w' => e = .returned (.bool (zz3 l1 l2 os)) ∧ Gr w w' := by
  have g1 := fun ty => h1.len (P := Try.prog) 25 ty 5 Try.underlying25
  have g2 := fun ty => h2.len (P := Try.prog) 25 ty 5 Try.underlying25
  have h := Lib.hid h0
  clear h0
  by_cases hc0 : (l1.length : Int) ≤ 2147483647
  case neg =>
    have hd0 := decide_eq_false hc0
    go_enter Try.func28, Try.ntmps28
    go_wp2_with ((go_at_call 38; refine (fits4_calls _ os _ (h.out.gr (by (repeat (with_reducible first | exact Gr.refl _ | assumption | refine Gr.alloc ?_ _ | refine Gr.drew ?_ | refine Gr.drewN ?_ _ | refine Gr.trans ?_ (by assumption))); done))).mono ?_; rintro e w9 ⟨rfl, hg9⟩))
    go_ret
    exact ⟨by simp [zz3, hd0], (by (repeat (with_reducible first | exact Gr.refl _ | assumption | refine Gr.alloc ?_ _ | refine Gr.drew ?_ | refine Gr.drewN ?_ _ | refine Gr.trans ?_ (by assumption))); done)⟩
  case pos =>
    have hd0 := decide_eq_true hc0
    by_cases hc1 : (l2.length : Int) ≤ 2147483647
    case neg =>
      have hd1 := decide_eq_false hc1
      go_enter Try.func28, Try.ntmps28
      go_wp2_with ((go_at_call 38; refine (fits4_calls _ os _ (h.out.gr (by (repeat (with_reducible first | exact Gr.refl _ | assumption | refine Gr.alloc ?_ _ | refine Gr.drew ?_ | refine Gr.drewN ?_ _ | refine Gr.trans ?_ (by assumption))); done))).mono ?_; rintro e w9 ⟨rfl, hg9⟩))
      go_ret
      exact ⟨by simp [zz3, hd0, hd1], (by (repeat (with_reducible first | exact Gr.refl _ | assumption | refine Gr.alloc ?_ _ | refine Gr.drew ?_ | refine Gr.drewN ?_ _ | refine Gr.trans ?_ (by assumption))); done)⟩
    case pos =>
      have hd1 := decide_eq_true hc1
      cases hc2 : (fitB os : Bool) with
      | false =>
        go_enter Try.func28, Try.ntmps28
        go_wp2_with ((go_at_call 38; refine (fits4_calls _ os _ (h.out.gr (by (repeat (with_reducible first | exact Gr.refl _ | assumption | refine Gr.alloc ?_ _ | refine Gr.drew ?_ | refine Gr.drewN ?_ _ | refine Gr.trans ?_ (by assumption))); done))).mono ?_; rintro e w9 ⟨rfl, hg9⟩))
        go_ret
        exact ⟨by simp [zz3, hd0, hd1, hc2], (by (repeat (with_reducible first | exact Gr.refl _ | assumption | refine Gr.alloc ?_ _ | refine Gr.drew ?_ | refine Gr.drewN ?_ _ | refine Gr.trans ?_ (by assumption))); done)⟩
      | true =>
        go_enter Try.func28, Try.ntmps28
        go_wp2_with ((go_at_call 38; refine (fits4_calls _ os _ (h.out.gr (by (repeat (with_reducible first | exact Gr.refl _ | assumption | refine Gr.alloc ?_ _ | refine Gr.drew ?_ | refine Gr.drewN ?_ _ | refine Gr.trans ?_ (by assumption))); done))).mono ?_; rintro e w9 ⟨rfl, hg9⟩))
        go_ret
        exact ⟨by simp [zz3, hd0, hd1, hc2], (by (repeat (with_reducible first | exact Gr.refl _ | assumption | refine Gr.alloc ?_ _ | refine Gr.drew ?_ | refine Gr.drewN ?_ _ | refine Gr.trans ?_ (by assumption))); done)⟩

def isIPv4 (sv idn fl fo tt pr : Int) (l1 l2 : List Int) (os : List Opt) : Bool := ((l1.length : Int) == 4) && ((l2.length : Int) == 4) && upto sv 255 && upto idn 65535 && upto fl 7 && upto fo 8191 && upto tt 255 && upto pr 255 && optsOk 0 os

set_option maxRecDepth 100000 in
set_option maxHeartbeats 1000000 in
theorem isIPv4_calls (wo sv ln idn fl fo tt pr ck : Int) (a1 : Option Addr) (n1 c1 : Nat) (a2 : Option Addr) (n2 c2 : Nat) (ao : Option Addr) (no co : Nat) (l1 l2 : List Int) (os : List Opt) (w : World) (h1 : IsB w (.slice a1 n1 c1) l1) (h2 : IsB w (.slice a2 n2 c2) l2) (h0 : IsOpts w (.slice ao no co) os) (hf0 : ∀ x ∈ os, x.data.length ≤ 2147483647) :
    Calls Try.prog 29 #[.agg #[.int .i64 wo, .int .i64 sv, .int .i64 ln, .int .i64 idn, .int .i64 fl, .int .i64 fo, .int .i64 tt, .int .i64 pr, .int .i64 ck, .slice a1 n1 c1, .slice a2 n2 c2, .slice ao no co]] w fun e w' => e = .returned (.bool (isIPv4 sv idn fl fo tt pr l1 l2 os)) ∧ Gr w w' := by
  have g1 := fun ty => h1.len (P := Try.prog) 25 ty 5 Try.underlying25
  have g2 := fun ty => h2.len (P := Try.prog) 25 ty 5 Try.underlying25
  have h := Lib.hid h0
  have hf := Lib.hid hf0
  clear h0 hf0
  cases hc0 : (((l1.length : Int) == 4) : Bool) with
  | false =>
    go_enter Try.func29, Try.ntmps29
    go_wp2_with ((first | (go_at_call 39; refine (upTo_calls _ _ _).mono ?_; rintro e w9 ⟨rfl, rfl⟩) | (go_at_call 40; refine (areOptions_calls _ os _ (h.out.gr (by (repeat (with_reducible first | exact Gr.refl _ | assumption | refine Gr.alloc ?_ _ | refine Gr.drew ?_ | refine Gr.drewN ?_ _ | refine Gr.trans ?_ (by assumption))); done)) hf.out).mono ?_; rintro e w9 ⟨rfl, hg9⟩; obtain ⟨hs9, hc9⟩ := Gr.boxed (w := w) (cs := [.int .i64 wo, .int .i64 sv, .int .i64 ln, .int .i64 idn, .int .i64 fl, .int .i64 fo, .int .i64 tt, .int .i64 pr, .int .i64 ck, .slice a1 n1 c1, .slice a2 n2 c2, .slice ao no co]) (t := 51) (w' := w9) (by (repeat (with_reducible first | exact Gr.refl _ | assumption | refine Gr.alloc ?_ _ | refine Gr.drew ?_ | refine Gr.drewN ?_ _ | refine Gr.trans ?_ (by assumption))); done))))
    go_ret
    exact ⟨by simp [isIPv4, hc0], (by (repeat (with_reducible first | exact Gr.refl _ | assumption | refine Gr.alloc ?_ _ | refine Gr.drew ?_ | refine Gr.drewN ?_ _ | refine Gr.trans ?_ (by assumption))); done)⟩
  | true =>
    cases hc1 : (((l2.length : Int) == 4) : Bool) with
    | false =>
      go_enter Try.func29, Try.ntmps29
      go_wp2_with ((first | (go_at_call 39; refine (upTo_calls _ _ _).mono ?_; rintro e w9 ⟨rfl, rfl⟩) | (go_at_call 40; refine (areOptions_calls _ os _ (h.out.gr (by (repeat (with_reducible first | exact Gr.refl _ | assumption | refine Gr.alloc ?_ _ | refine Gr.drew ?_ | refine Gr.drewN ?_ _ | refine Gr.trans ?_ (by assumption))); done)) hf.out).mono ?_; rintro e w9 ⟨rfl, hg9⟩; obtain ⟨hs9, hc9⟩ := Gr.boxed (w := w) (cs := [.int .i64 wo, .int .i64 sv, .int .i64 ln, .int .i64 idn, .int .i64 fl, .int .i64 fo, .int .i64 tt, .int .i64 pr, .int .i64 ck, .slice a1 n1 c1, .slice a2 n2 c2, .slice ao no co]) (t := 51) (w' := w9) (by (repeat (with_reducible first | exact Gr.refl _ | assumption | refine Gr.alloc ?_ _ | refine Gr.drew ?_ | refine Gr.drewN ?_ _ | refine Gr.trans ?_ (by assumption))); done))))
      go_ret
      exact ⟨by simp [isIPv4, hc0, hc1], (by (repeat (with_reducible first | exact Gr.refl _ | assumption | refine Gr.alloc ?_ _ | refine Gr.drew ?_ | refine Gr.drewN ?_ _ | refine Gr.trans ?_ (by assumption))); done)⟩
    | true =>
      cases hc2 : (upto sv 255 : Bool) with
      | false =>
        go_enter Try.func29, Try.ntmps29
        go_wp2_with ((first | (go_at_call 39; refine (upTo_calls _ _ _).mono ?_; rintro e w9 ⟨rfl, rfl⟩) | (go_at_call 40; refine (areOptions_calls _ os _ (h.out.gr (by (repeat (with_reducible first | exact Gr.refl _ | assumption | refine Gr.alloc ?_ _ | refine Gr.drew ?_ | refine Gr.drewN ?_ _ | refine Gr.trans ?_ (by assumption))); done)) hf.out).mono ?_; rintro e w9 ⟨rfl, hg9⟩; obtain ⟨hs9, hc9⟩ := Gr.boxed (w := w) (cs := [.int .i64 wo, .int .i64 sv, .int .i64 ln, .int .i64 idn, .int .i64 fl, .int .i64 fo, .int .i64 tt, .int .i64 pr, .int .i64 ck, .slice a1 n1 c1, .slice a2 n2 c2, .slice ao no co]) (t := 51) (w' := w9) (by (repeat (with_reducible first | exact Gr.refl _ | assumption | refine Gr.alloc ?_ _ | refine Gr.drew ?_ | refine Gr.drewN ?_ _ | refine Gr.trans ?_ (by assumption))); done))))
        go_ret
        exact ⟨by simp [isIPv4, hc0, hc1, hc2], (by (repeat (with_reducible first | exact Gr.refl _ | assumption | refine Gr.alloc ?_ _ | refine Gr.drew ?_ | refine Gr.drewN ?_ _ | refine Gr.trans ?_ (by assumption))); done)⟩
      | true =>
        cases hc3 : (upto idn 65535 : Bool) with
        | false =>
          go_enter Try.func29, Try.ntmps29
          go_wp2_with ((first | (go_at_call 39; refine (upTo_calls _ _ _).mono ?_; rintro e w9 ⟨rfl, rfl⟩) | (go_at_call 40; refine (areOptions_calls _ os _ (h.out.gr (by (repeat (with_reducible first | exact Gr.refl _ | assumption | refine Gr.alloc ?_ _ | refine Gr.drew ?_ | refine Gr.drewN ?_ _ | refine Gr.trans ?_ (by assumption))); done)) hf.out).mono ?_; rintro e w9 ⟨rfl, hg9⟩; obtain ⟨hs9, hc9⟩ := Gr.boxed (w := w) (cs := [.int .i64 wo, .int .i64 sv, .int .i64 ln, .int .i64 idn, .int .i64 fl, .int .i64 fo, .int .i64 tt, .int .i64 pr, .int .i64 ck, .slice a1 n1 c1, .slice a2 n2 c2, .slice ao no co]) (t := 51) (w' := w9) (by (repeat (with_reducible first | exact Gr.refl _ | assumption | refine Gr.alloc ?_ _ | refine Gr.drew ?_ | refine Gr.drewN ?_ _ | refine Gr.trans ?_ (by assumption))); done))))
          go_ret
          exact ⟨by simp [isIPv4, hc0, hc1, hc2, hc3], (by (repeat (with_reducible first | exact Gr.refl _ | assumption | refine Gr.alloc ?_ _ | refine Gr.drew ?_ | refine Gr.drewN ?_ _ | refine Gr.trans ?_ (by assumption))); done)⟩
        | true =>
          cases hc4 : (upto fl 7 : Bool) with
          | false =>
            go_enter Try.func29, Try.ntmps29
            go_wp2_with ((first | (go_at_call 39; refine (upTo_calls _ _ _).mono ?_; rintro e w9 ⟨rfl, rfl⟩) | (go_at_call 40; refine (areOptions_calls _ os _ (h.out.gr (by (repeat (with_reducible first | exact Gr.refl _ | assumption | refine Gr.alloc ?_ _ | refine Gr.drew ?_ | refine Gr.drewN ?_ _ | refine Gr.trans ?_ (by assumption))); done)) hf.out).mono ?_; rintro e w9 ⟨rfl, hg9⟩; obtain ⟨hs9, hc9⟩ := Gr.boxed (w := w) (cs := [.int .i64 wo, .int .i64 sv, .int .i64 ln, .int .i64 idn, .int .i64 fl, .int .i64 fo, .int .i64 tt, .int .i64 pr, .int .i64 ck, .slice a1 n1 c1, .slice a2 n2 c2, .slice ao no co]) (t := 51) (w' := w9) (by (repeat (with_reducible first | exact Gr.refl _ | assumption | refine Gr.alloc ?_ _ | refine Gr.drew ?_ | refine Gr.drewN ?_ _ | refine Gr.trans ?_ (by assumption))); done))))
            go_ret
            exact ⟨by simp [isIPv4, hc0, hc1, hc2, hc3, hc4], (by (repeat (with_reducible first | exact Gr.refl _ | assumption | refine Gr.alloc ?_ _ | refine Gr.drew ?_ | refine Gr.drewN ?_ _ | refine Gr.trans ?_ (by assumption))); done)⟩
          | true =>
            cases hc5 : (upto fo 8191 : Bool) with
            | false =>
              go_enter Try.func29, Try.ntmps29
              go_wp2_with ((first | (go_at_call 39; refine (upTo_calls _ _ _).mono ?_; rintro e w9 ⟨rfl, rfl⟩) | (go_at_call 40; refine (areOptions_calls _ os _ (h.out.gr (by (repeat (with_reducible first | exact Gr.refl _ | assumption | refine Gr.alloc ?_ _ | refine Gr.drew ?_ | refine Gr.drewN ?_ _ | refine Gr.trans ?_ (by assumption))); done)) hf.out).mono ?_; rintro e w9 ⟨rfl, hg9⟩; obtain ⟨hs9, hc9⟩ := Gr.boxed (w := w) (cs := [.int .i64 wo, .int .i64 sv, .int .i64 ln, .int .i64 idn, .int .i64 fl, .int .i64 fo, .int .i64 tt, .int .i64 pr, .int .i64 ck, .slice a1 n1 c1, .slice a2 n2 c2, .slice ao no co]) (t := 51) (w' := w9) (by (repeat (with_reducible first | exact Gr.refl _ | assumption | refine Gr.alloc ?_ _ | refine Gr.drew ?_ | refine Gr.drewN ?_ _ | refine Gr.trans ?_ (by assumption))); done))))
              go_ret
              exact ⟨by simp [isIPv4, hc0, hc1, hc2, hc3, hc4, hc5], (by (repeat (with_reducible first | exact Gr.refl _ | assumption | refine Gr.alloc ?_ _ | refine Gr.drew ?_ | refine Gr.drewN ?_ _ | refine Gr.trans ?_ (by assumption))); done)⟩
            | true =>
              cases hc6 : (upto tt 255 : Bool) with
              | false =>
                go_enter Try.func29, Try.ntmps29
                go_wp2_with ((first | (go_at_call 39; refine (upTo_calls _ _ _).mono ?_; rintro e w9 ⟨rfl, rfl⟩) | (go_at_call 40; refine (areOptions_calls _ os _ (h.out.gr (by (repeat (with_reducible first | exact Gr.refl _ | assumption | refine Gr.alloc ?_ _ | refine Gr.drew ?_ | refine Gr.drewN ?_ _ | refine Gr.trans ?_ (by assumption))); done)) hf.out).mono ?_; rintro e w9 ⟨rfl, hg9⟩; obtain ⟨hs9, hc9⟩ := Gr.boxed (w := w) (cs := [.int .i64 wo, .int .i64 sv, .int .i64 ln, .int .i64 idn, .int .i64 fl, .int .i64 fo, .int .i64 tt, .int .i64 pr, .int .i64 ck, .slice a1 n1 c1, .slice a2 n2 c2, .slice ao no co]) (t := 51) (w' := w9) (by (repeat (with_reducible first | exact Gr.refl _ | assumption | refine Gr.alloc ?_ _ | refine Gr.drew ?_ | refine Gr.drewN ?_ _ | refine Gr.trans ?_ (by assumption))); done))))
                go_ret
                exact ⟨by simp [isIPv4, hc0, hc1, hc2, hc3, hc4, hc5, hc6], (by (repeat (with_reducible first | exact Gr.refl _ | assumption | refine Gr.alloc ?_ _ | refine Gr.drew ?_ | refine Gr.drewN ?_ _ | refine Gr.trans ?_ (by assumption))); done)⟩
              | true =>
                cases hc7 : (upto pr 255 : Bool) with
                | false =>
                  go_enter Try.func29, Try.ntmps29
                  go_wp2_with ((first | (go_at_call 39; refine (upTo_calls _ _ _).mono ?_; rintro e w9 ⟨rfl, rfl⟩) | (go_at_call 40; refine (areOptions_calls _ os _ (h.out.gr (by (repeat (with_reducible first | exact Gr.refl _ | assumption | refine Gr.alloc ?_ _ | refine Gr.drew ?_ | refine Gr.drewN ?_ _ | refine Gr.trans ?_ (by assumption))); done)) hf.out).mono ?_; rintro e w9 ⟨rfl, hg9⟩; obtain ⟨hs9, hc9⟩ := Gr.boxed (w := w) (cs := [.int .i64 wo, .int .i64 sv, .int .i64 ln, .int .i64 idn, .int .i64 fl, .int .i64 fo, .int .i64 tt, .int .i64 pr, .int .i64 ck, .slice a1 n1 c1, .slice a2 n2 c2, .slice ao no co]) (t := 51) (w' := w9) (by (repeat (with_reducible first | exact Gr.refl _ | assumption | refine Gr.alloc ?_ _ | refine Gr.drew ?_ | refine Gr.drewN ?_ _ | refine Gr.trans ?_ (by assumption))); done))))
                  go_ret
                  exact ⟨by simp [isIPv4, hc0, hc1, hc2, hc3, hc4, hc5, hc6, hc7], (by (repeat (with_reducible first | exact Gr.refl _ | assumption | refine Gr.alloc ?_ _ | refine Gr.drew ?_ | refine Gr.drewN ?_ _ | refine Gr.trans ?_ (by assumption))); done)⟩
                | true =>
                  cases hc8 : (optsOk 0 os : Bool) with
                  | false =>
                    go_enter Try.func29, Try.ntmps29
                    go_wp2_with ((first | (go_at_call 39; refine (upTo_calls _ _ _).mono ?_; rintro e w9 ⟨rfl, rfl⟩) | (go_at_call 40; refine (areOptions_calls _ os _ (h.out.gr (by (repeat (with_reducible first | exact Gr.refl _ | assumption | refine Gr.alloc ?_ _ | refine Gr.drew ?_ | refine Gr.drewN ?_ _ | refine Gr.trans ?_ (by assumption))); done)) hf.out).mono ?_; rintro e w9 ⟨rfl, hg9⟩; obtain ⟨hs9, hc9⟩ := Gr.boxed (w := w) (cs := [.int .i64 wo, .int .i64 sv, .int .i64 ln, .int .i64 idn, .int .i64 fl, .int .i64 fo, .int .i64 tt, .int .i64 pr, .int .i64 ck, .slice a1 n1 c1, .slice a2 n2 c2, .slice ao no co]) (t := 51) (w' := w9) (by (repeat (with_reducible first | exact Gr.refl _ | assumption | refine Gr.alloc ?_ _ | refine Gr.drew ?_ | refine Gr.drewN ?_ _ | refine Gr.trans ?_ (by assumption))); done))))
                    go_ret
                    exact ⟨by simp [isIPv4, hc0, hc1, hc2, hc3, hc4, hc5, hc6, hc7, hc8], (by (repeat (with_reducible first | exact Gr.refl _ | assumption | refine Gr.alloc ?_ _ | refine Gr.drew ?_ | refine Gr.drewN ?_ _ | refine Gr.trans ?_ (by assumption))); done)⟩
                  | true =>
                    go_enter Try.func29, Try.ntmps29
                    go_wp2_with ((first | (go_at_call 39; refine (upTo_calls _ _ _).mono ?_; rintro e w9 ⟨rfl, rfl⟩) | (go_at_call 40; refine (areOptions_calls _ os _ (h.out.gr (by (repeat (with_reducible first | exact Gr.refl _ | assumption | refine Gr.alloc ?_ _ | refine Gr.drew ?_ | refine Gr.drewN ?_ _ | refine Gr.trans ?_ (by assumption))); done)) hf.out).mono ?_; rintro e w9 ⟨rfl, hg9⟩; obtain ⟨hs9, hc9⟩ := Gr.boxed (w := w) (cs := [.int .i64 wo, .int .i64 sv, .int .i64 ln, .int .i64 idn, .int .i64 fl, .int .i64 fo, .int .i64 tt, .int .i64 pr, .int .i64 ck, .slice a1 n1 c1, .slice a2 n2 c2, .slice ao no co]) (t := 51) (w' := w9) (by (repeat (with_reducible first | exact Gr.refl _ | assumption | refine Gr.alloc ?_ _ | refine Gr.drew ?_ | refine Gr.drewN ?_ _ | refine Gr.trans ?_ (by assumption))); done))))
                    go_ret
                    exact ⟨by simp [isIPv4, hc0, hc1, hc2, hc3, hc4, hc5, hc6, hc7, hc8], (by (repeat (with_reducible first | exact Gr.refl _ | assumption | refine Gr.alloc ?_ _ | refine Gr.drew ?_ | refine Gr.drewN ?_ _ | refine Gr.trans ?_ (by assumption))); done)⟩

/-- an option of more than one byte that has no data -/
def bareX (x : Opt) : Bool := (x.kind != 1) && ((x.data.length : Int) == 0)
/-- there is one -/
def hasBare (os : List Opt) : Bool := os.any bareX
/-- what holds ahead of a round -/
def BareRel (w : World) (os : List Opt) (i : Value) (wr : World) : Prop := ∃ k : Nat, k ≤ os.length ∧ i = .int .i64 k ∧ (os.take k).any bareX = false ∧ Gr w wr

/-- the header's bytes -/
def ip4B (wo sv ln idn fl fo tt pr ck : Int) (l1 l2 : List Int) (os : List Opt) : List Int := [[[64 + wo, sv], sh ln, sh idn, sh (fl * 8192 + fo)].flatten, [tt, pr], sh ck, l1, l2, optsB os].flatten
/-- its head -/
def HeadRel (w : World) (B : Nat) (cs : List Value) (hd : List Int) (v : Value) (wx : World) : Prop := ∃ a n c, v = .slice a n c ∧ IsB wx (.slice a n c) hd ∧ Gr w wx ∧ ∀ j u, cs[j]? = some u → wx.cell? ⟨B, j, none⟩ = some u

set_option maxRecDepth 100000 in
set_option maxHeartbeats 4000000 in
theorem ip4B_calls (wo sv ln idn fl fo tt pr ck : Int) (a1 : Option Addr) (n1 c1 : Nat) (a2 : Option Addr) (n2 c2 : Nat) (ao : Option Addr) (no co : Nat) (l1 l2 : List Int) (os : List Opt) (w : World) (h1 : IsB w (.slice a1 n1 c1) l1) (h2 : IsB w (.slice a2 n2 c2) l2) (h0 : IsOpts w (.slice ao no co) os) (hl : (optsRaw os).length ≤ 1000) (hl1 : l1.length ≤ 1000) (hl2 : l2.length ≤ 1000) (hw : 0 ≤ wo ∧ wo ≤ 15) (hsv : 0 ≤ sv ∧ sv ≤ 255) (hfl : 0 ≤ fl ∧ fl ≤ 7) (hfo : 0 ≤ fo ∧ fo ≤ 8191) (htt : 0 ≤ tt ∧ tt ≤ 255) (hpr : 0 ≤ pr ∧ pr ≤ 255) :
    Calls Try.prog 31 #[.agg #[.int .i64 wo, .int .i64 sv, .int .i64 ln, .int .i64 idn, .int .i64 fl, .int .i64 fo, .int .i64 tt, .int .i64 pr, .int .i64 ck, .slice a1 n1 c1, .slice a2 n2 c2, .slice ao no co]] w (RetB w (ip4B wo sv ln idn fl fo tt pr ck l1 l2 os)) := by
  have h := Lib.hid h0
  have H1 := Lib.hid h1
  have H2 := Lib.hid h2
  have HL := Lib.hid hl
  have HLB := Lib.hid (show (optsB os).length ≤ 1003 by unfold optsB; rw [List.length_append, List.length_replicate]; omega)
  have eor : bits .or .i64 64 wo = 64 + wo := bor .i64 4 (by omega) hw.1 (by omega) (by omega) (by rw [max_i64]; omega)
  have uf : IntKind.i64.wrap (fl * 8192) = fl * 8192 := w64 (by omega) (by omega)
  have eof : bits .or .i64 (fl * 8192) fo = fl * 8192 + fo := bor .i64 13 (by omega) hfo.1 (by omega) (by omega) (by rw [max_i64]; omega)
  have z1 : IntKind.u8.wrap (64 + wo) = 64 + wo := by simp [IntKind.wrap, IntKind.bits, IntKind.signed]; omega
  have z2 : IntKind.u8.wrap sv = sv := by simp [IntKind.wrap, IntKind.bits, IntKind.signed]; omega
  have z3 : IntKind.u8.wrap tt = tt := by simp [IntKind.wrap, IntKind.bits, IntKind.signed]; omega
  have z4 : IntKind.u8.wrap pr = pr := by simp [IntKind.wrap, IntKind.bits, IntKind.signed]; omega
  have HU := Lib.hid (show (0 ≤ 64 + wo ∧ 64 + wo ≤ 255) ∧ (0 ≤ sv ∧ sv ≤ 255) ∧ (0 ≤ tt ∧ tt ≤ 255) ∧ (0 ≤ pr ∧ pr ≤ 255) ∧ l1.length ≤ 1000 ∧ l2.length ≤ 1000 by omega)
  obtain ⟨hd, hhd⟩ : ∃ hd, hd = [[64 + wo, sv], sh ln, sh idn, sh (fl * 8192 + fo)].flatten := ⟨_, rfl⟩
  have HHD := Lib.hid hhd
  have HHL := Lib.hid (show hd.length = 8 by rw [hhd]; simp [sh])
  clear h0 h1 h2 hl hhd hl1 hl2 hw hsv hfl hfo htt hpr
  go_enter Try.func31, Try.ntmps31
  go_upto_region 1 with fail
  go_cut [3] (fun v wx => HeadRel (w.alloc (.cells [.int .i64 wo, .int .i64 sv, .int .i64 ln, .int .i64 idn, .int .i64 fl, .int .i64 fo, .int .i64 tt, .int .i64 pr, .int .i64 ck, .slice a1 n1 c1, .slice a2 n2 c2, .slice ao no co].toArray 51)) w.heap.size [.int .i64 wo, .int .i64 sv, .int .i64 ln, .int .i64 idn, .int .i64 fl, .int .i64 fo, .int .i64 tt, .int .i64 pr, .int .i64 ck, .slice a1 n1 c1, .slice a2 n2 c2, .slice ao no co] hd v wx)
  case first =>
    go_region_held3 (fun w' => w'.cell? ⟨w.heap.size, 0, none⟩ = some (.int .i64 wo) ∧ w'.cell? ⟨w.heap.size, 1, none⟩ = some (.int .i64 sv) ∧ w'.cell? ⟨w.heap.size, 2, none⟩ = some (.int .i64 ln) ∧ w'.cell? ⟨w.heap.size, 3, none⟩ = some (.int .i64 idn) ∧ w'.cell? ⟨w.heap.size, 4, none⟩ = some (.int .i64 fl) ∧ w'.cell? ⟨w.heap.size, 5, none⟩ = some (.int .i64 fo)) (first | exact And.imp (Gr.cell (by assumption)) (And.imp (Gr.cell (by assumption)) (And.imp (Gr.cell (by assumption)) (And.imp (Gr.cell (by assumption)) (And.imp (Gr.cell (by assumption)) (Gr.cell (by assumption)))))) (by assumption) | exact And.imp (Gr.cell ((Gr.refl _).alloc _)) (And.imp (Gr.cell ((Gr.refl _).alloc _)) (And.imp (Gr.cell ((Gr.refl _).alloc _)) (And.imp (Gr.cell ((Gr.refl _).alloc _)) (And.imp (Gr.cell ((Gr.refl _).alloc _)) (Gr.cell ((Gr.refl _).alloc _)))))) (by assumption) | go_keep) (first
      | (go_at_call 46; refine (short_calls _ _).mono ?_; rintro e w9 ⟨_, _, _, rfl, ho9, hg9⟩; have hb9 := ho9.isB)
      | (go_at_call 15; refine (joined_calls _ [[64 + wo, sv], sh ln, sh idn, sh (fl * 8192 + fo)] _ (isBs_at _ _ [[64 + wo, sv], sh ln, sh idn, sh (fl * 8192 + fo)] _ (Reads.cons (lit2_gr (by (repeat (with_reducible first | exact Gr.refl _ | assumption | refine Gr.alloc ?_ _ | refine Gr.drew ?_ | refine Gr.drewN ?_ _ | refine Gr.trans ?_ (by assumption))); done) (by simp) HU.out.1 HU.out.2.1) (Reads.cons (IsB.gr (by assumption) (by (repeat (with_reducible first | exact Gr.refl _ | assumption | refine Gr.alloc ?_ _ | refine Gr.drew ?_ | refine Gr.drewN ?_ _ | refine Gr.trans ?_ (by assumption))); done)) (Reads.cons (IsB.gr (by assumption) (by (repeat (with_reducible first | exact Gr.refl _ | assumption | refine Gr.alloc ?_ _ | refine Gr.drew ?_ | refine Gr.drewN ?_ _ | refine Gr.trans ?_ (by assumption))); done)) (Reads.cons (IsB.gr (by assumption) (by (repeat (with_reducible first | exact Gr.refl _ | assumption | refine Gr.alloc ?_ _ | refine Gr.drew ?_ | refine Gr.drewN ?_ _ | refine Gr.trans ?_ (by assumption))); done)) (Reads.nil _))))) _ rfl _ (by simp)) (by simp [sh]) (by simp)).mono ?_; rintro e w9 ⟨_, _, _, rfl, ho9, hg9⟩; have hb9 := ho9.isB; rw [← HHD.out] at hb9))
    all_goals (go_wp2_with fail; go_meet)
    all_goals (unfold HeadRel; exact ⟨_, _, _, rfl, hb9, (by (repeat (with_reducible first | exact Gr.refl _ | assumption | refine Gr.alloc ?_ _ | refine Gr.drew ?_ | refine Gr.drewN ?_ _ | refine Gr.trans ?_ (by assumption))); done), fun j u hj => Gr.cell (by (repeat (with_reducible first | exact Gr.refl _ | assumption | refine Gr.alloc ?_ _ | refine Gr.drew ?_ | refine Gr.drewN ?_ _ | refine Gr.trans ?_ (by assumption))); done) (cell_of_heap (heap_alloc_new w _) j u hj)⟩)
  case rest =>
  unfold HeadRel at hcut
  obtain ⟨a3, n3, c3, rfl, hb3, hg3, hk3⟩ := hcut
  have k6 := hk3 6 _ rfl
  have k7 := hk3 7 _ rfl
  have k8 := hk3 8 _ rfl
  have k9 := hk3 9 _ rfl
  have k10 := hk3 10 _ rfl
  have k11 := hk3 11 _ rfl
  have HBD := Lib.hid hb3
  have HW := Lib.hid (show Gr w wc from ((Gr.refl w).alloc _).trans hg3)
  have X1 := H1.out.gr HW.out
  have X2 := H2.out.gr HW.out
  clear hk3 hb3 hg3
  go_wp2_with fail
  go_region_held3 (fun w' => w'.cell? ⟨w.heap.size, 6, none⟩ = some (.int .i64 tt) ∧ w'.cell? ⟨w.heap.size, 7, none⟩ = some (.int .i64 pr) ∧ w'.cell? ⟨w.heap.size, 8, none⟩ = some (.int .i64 ck) ∧ w'.cell? ⟨w.heap.size, 9, none⟩ = some (.slice a1 n1 c1) ∧ w'.cell? ⟨w.heap.size, 10, none⟩ = some (.slice a2 n2 c2) ∧ w'.cell? ⟨w.heap.size, 11, none⟩ = some (.slice ao no co)) (first | exact ⟨k6, k7, k8, k9, k10, k11⟩ | exact And.imp (Gr.cell (by assumption)) (And.imp (Gr.cell (by assumption)) (And.imp (Gr.cell (by assumption)) (And.imp (Gr.cell (by assumption)) (And.imp (Gr.cell (by assumption)) (Gr.cell (by assumption)))))) (by assumption) | exact And.imp (Gr.cell ((Gr.refl _).alloc _)) (And.imp (Gr.cell ((Gr.refl _).alloc _)) (And.imp (Gr.cell ((Gr.refl _).alloc _)) (And.imp (Gr.cell ((Gr.refl _).alloc _)) (And.imp (Gr.cell ((Gr.refl _).alloc _)) (Gr.cell ((Gr.refl _).alloc _)))))) (by assumption) | go_keep) (first
    | (go_at_call 46; refine (short_calls _ _).mono ?_; rintro e w8 ⟨_, _, _, rfl, ho8, hg8⟩; have hb8 := ho8.isB)
    | (go_at_call 41; refine (options_calls _ os _ (h.out.gr (HW.out.trans (by (repeat (with_reducible first | exact Gr.refl _ | assumption | refine Gr.alloc ?_ _ | refine Gr.drew ?_ | refine Gr.drewN ?_ _ | refine Gr.trans ?_ (by assumption))); done))) (by have := HL.out; omega)).mono ?_; rintro e w7 ⟨_, _, _, rfl, ho7, hg7⟩; have hb7 := ho7.isB)
    | (go_at_call 15; refine (joined_calls _ [hd, [tt, pr], sh ck, l1, l2, optsB os] _ (isBs_at _ _ [hd, [tt, pr], sh ck, l1, l2, optsB os] _ (Reads.cons (IsB.gr HBD.out (by (repeat (with_reducible first | exact Gr.refl _ | assumption | refine Gr.alloc ?_ _ | refine Gr.drew ?_ | refine Gr.drewN ?_ _ | refine Gr.trans ?_ (by assumption))); done)) (Reads.cons (lit2_gr (by (repeat (with_reducible first | exact Gr.refl _ | assumption | refine Gr.alloc ?_ _ | refine Gr.drew ?_ | refine Gr.drewN ?_ _ | refine Gr.trans ?_ (by assumption))); done) (by simp) HU.out.2.2.1 HU.out.2.2.2.1) (Reads.cons (IsB.gr hb8 (by (repeat (with_reducible first | exact Gr.refl _ | assumption | refine Gr.alloc ?_ _ | refine Gr.drew ?_ | refine Gr.drewN ?_ _ | refine Gr.trans ?_ (by assumption))); done)) (Reads.cons (IsB.gr X1 (by (repeat (with_reducible first | exact Gr.refl _ | assumption | refine Gr.alloc ?_ _ | refine Gr.drew ?_ | refine Gr.drewN ?_ _ | refine Gr.trans ?_ (by assumption))); done)) (Reads.cons (IsB.gr X2 (by (repeat (with_reducible first | exact Gr.refl _ | assumption | refine Gr.alloc ?_ _ | refine Gr.drew ?_ | refine Gr.drewN ?_ _ | refine Gr.trans ?_ (by assumption))); done)) (Reads.cons (IsB.gr hb7 (by (repeat (with_reducible first | exact Gr.refl _ | assumption | refine Gr.alloc ?_ _ | refine Gr.drew ?_ | refine Gr.drewN ?_ _ | refine Gr.trans ?_ (by assumption))); done)) (Reads.nil _))))))) _ rfl _ (by simp)) (by have := HHL.out; have := HLB.out; have := HU.out.2.2.2.2; simp [sh]; omega) (by simp)).mono ?_; rintro e w6 ⟨_, _, _, rfl, ho6, hg6⟩))
  all_goals go_wp2
  all_goals (go_ret; unfold ip4B; rw [← HHD.out]; exact RetB.after (HW.out.trans (by (repeat (with_reducible first | exact Gr.refl _ | assumption | refine Gr.alloc ?_ _ | refine Gr.drew ?_ | refine Gr.drewN ?_ _ | refine Gr.trans ?_ (by assumption))); done)) ho6 hg6)

end Go.Proofs.Ytdpffedmgmllbaa
