/-
  A message of the discovery of neighbors as the reference has it.
-/
import Derived.Test.YtoopkfnkmaaieaaUnits
import Derived.Test.YtoopkfnkmaaieaaKinds
import Derived.Test.YtoopkfnkmaaieaaLib2
import Derived.Test.YtoopkfnkmaaieaaLib3
import Derived.Deep.RegionHeld3
import Derived.Deep.RegionWith
import Derived.Deep.DeepCutAuto
namespace Go.Proofs.Ytoopkfnkmaaieaa
open Go.RowKit

def zz17 (l1 l2 : List Int) (os : List Opt) : Bool := decide ((l1.length : Int) ≤ 2147483647) && decide ((l2.length : Int) ≤ 2147483647) && fitB os

set_option maxRecDepth 100000 in
set_option maxHeartbeats 1000000 in
theorem zz17_calls (ty ho fg lf re be : Int) (a1 : Option Addr) (n1 c1 : Nat) (a2 : Option Addr) (n2 c2 : Nat) (ao : Option Addr) (no co : Nat) (l1 l2 : List Int) (os : List Opt) (w : World) (h1 : IsB w (.slice a1 n1 c1) l1) (h2 : IsB w (.slice a2 n2 c2) l2) (h0 : IsOpts w (.slice ao no co) os) :
    Calls Try.prog 36 #[.agg #[.int .i64 ty, .int .i64 ho, .int .i64 fg, .int .i64 lf, .int .i64 re, .int .i64 be, .slice a1 n1 c1, .slice a2 n2 c2, .slice ao no co]] w fun e w' => e = .returned (.bool (zz17 l1 l2 os)) ∧ Gr w w' := by
  have g1 := fun ty => h1.len (P := Try.prog) 25 ty 5 Try.underlying25
  have g2 := fun ty => h2.len (P := Try.prog) 25 ty 5 Try.underlying25
  have h := Lib.hid h0
  clear h0
  by_cases hc0 : (l1.length : Int) ≤ 2147483647
  case neg =>
    have hd0 := decide_eq_false hc0
    go_enter Try.func36, Try.ntmps36
    go_wp2_with ((go_at_call 41; refine (fits4_calls _ os _ (h.out.gr (by (repeat (with_reducible first | exact Gr.refl _ | assumption | refine Gr.alloc ?_ _ | refine Gr.drew ?_ | refine Gr.drewN ?_ _ | refine Gr.trans ?_ (by assumption))); done))).mono ?_; rintro e w9 ⟨rfl, hg9⟩))
    go_ret
    exact ⟨by simp [zz17, hd0], (by (repeat (with_reducible first | exact Gr.refl _ | assumption | refine Gr.alloc ?_ _ | refine Gr.drew ?_ | refine Gr.drewN ?_ _ | refine Gr.trans ?_ (by assumption))); done)⟩
  case pos =>
    have hd0 := decide_eq_true hc0
    by_cases hc1 : (l2.length : Int) ≤ 2147483647
    case neg =>
      have hd1 := decide_eq_false hc1
      go_enter Try.func36, Try.ntmps36
      go_wp2_with ((go_at_call 41; refine (fits4_calls _ os _ (h.out.gr (by (repeat (with_reducible first | exact Gr.refl _ | assumption | refine Gr.alloc ?_ _ | refine Gr.drew ?_ | refine Gr.drewN ?_ _ | refine Gr.trans ?_ (by assumption))); done))).mono ?_; rintro e w9 ⟨rfl, hg9⟩))
      go_ret
      exact ⟨by simp [zz17, hd0, hd1], (by (repeat (with_reducible first | exact Gr.refl _ | assumption | refine Gr.alloc ?_ _ | refine Gr.drew ?_ | refine Gr.drewN ?_ _ | refine Gr.trans ?_ (by assumption))); done)⟩
    case pos =>
      have hd1 := decide_eq_true hc1
      cases hc2 : (fitB os : Bool) with
      | false =>
        go_enter Try.func36, Try.ntmps36
        go_wp2_with ((go_at_call 41; refine (fits4_calls _ os _ (h.out.gr (by (repeat (with_reducible first | exact Gr.refl _ | assumption | refine Gr.alloc ?_ _ | refine Gr.drew ?_ | refine Gr.drewN ?_ _ | refine Gr.trans ?_ (by assumption))); done))).mono ?_; rintro e w9 ⟨rfl, hg9⟩))
        go_ret
        exact ⟨by simp [zz17, hd0, hd1, hc2], (by (repeat (with_reducible first | exact Gr.refl _ | assumption | refine Gr.alloc ?_ _ | refine Gr.drew ?_ | refine Gr.drewN ?_ _ | refine Gr.trans ?_ (by assumption))); done)⟩
      | true =>
        go_enter Try.func36, Try.ntmps36
        go_wp2_with ((go_at_call 41; refine (fits4_calls _ os _ (h.out.gr (by (repeat (with_reducible first | exact Gr.refl _ | assumption | refine Gr.alloc ?_ _ | refine Gr.drew ?_ | refine Gr.drewN ?_ _ | refine Gr.trans ?_ (by assumption))); done))).mono ?_; rintro e w9 ⟨rfl, hg9⟩))
        go_ret
        exact ⟨by simp [zz17, hd0, hd1, hc2], (by (repeat (with_reducible first | exact Gr.refl _ | assumption | refine Gr.alloc ?_ _ | refine Gr.drew ?_ | refine Gr.drewN ?_ _ | refine Gr.trans ?_ (by assumption))); done)⟩

/-- the numbers of a router -/
def routerOk (ho fg lf re be : Int) : Bool := upto ho 255 && (upto fg 255 && (upto lf 65535 && (upto re 4294967295 && upto be 4294967295)))
/-- none of them -/
def noneOk (ho lf re be : Int) : Bool := (ho == 0) && ((lf == 0) && ((re == 0) && (be == 0)))
/-- a message has just the parts of its type -/
def nbOk (ty ho fg lf re be : Int) (l1 l2 : List Int) : Bool :=
  if ty = 133 then noneOk ho lf re be && ((fg == 0) && ((l1.length : Int) + (l2.length : Int) == 0))
  else if ty = 134 then routerOk ho fg lf re be && ((l1.length : Int) + (l2.length : Int) == 0)
  else if ty = 135 then noneOk ho lf re be && ((fg == 0) && (((l1.length : Int) == 16) && ((l2.length : Int) == 0)))
  else if ty = 136 then noneOk ho lf re be && (upto fg 255 && (((l1.length : Int) == 16) && ((l2.length : Int) == 0)))
  else if ty = 137 then noneOk ho lf re be && ((fg == 0) && (((l1.length : Int) == 16) && ((l2.length : Int) == 16)))
  else false

set_option linter.unusedSimpArgs false in
set_option linter.unusedVariables false in
set_option maxRecDepth 100000 in
set_option maxHeartbeats 8000000 in
theorem isNeighbor_calls (ty ho fg lf re be : Int) (a1 : Option Addr) (n1 c1 : Nat) (a2 : Option Addr) (n2 c2 : Nat) (ao : Option Addr) (no co : Nat) (l1 l2 : List Int) (os : List Opt) (w : World) (h1 : IsB w (.slice a1 n1 c1) l1) (h2 : IsB w (.slice a2 n2 c2) l2) (h0 : IsOpts w (.slice ao no co) os) (hf0 : ∀ x ∈ os, x.data.length ≤ 2147483647) (hl1 : l1.length ≤ 2147483647) (hl2 : l2.length ≤ 2147483647) :
    Calls Try.prog 37 #[.agg #[.int .i64 ty, .int .i64 ho, .int .i64 fg, .int .i64 lf, .int .i64 re, .int .i64 be, .slice a1 n1 c1, .slice a2 n2 c2, .slice ao no co]] w fun e w' => e = .returned (.bool (unitsOk os && nbOk ty ho fg lf re be l1 l2)) ∧ Gr w w' := by
  have g1 := fun ty => h1.len (P := Try.prog) 25 ty 5 Try.underlying25
  have g2 := fun ty => h2.len (P := Try.prog) 25 ty 5 Try.underlying25
  have h := Lib.hid h0
  have hf := Lib.hid hf0
  have iw : IntKind.i64.wrap ((l1.length : Int) + (l2.length : Int)) = (l1.length : Int) + (l2.length : Int) := w64 (by omega) (by omega)
  obtain ⟨UO, hUO⟩ : ∃ UO, UO = unitsOk os := ⟨_, rfl⟩
  have HUO := Lib.hid hUO
  rw [← hUO]
  obtain ⟨RO, hRO⟩ : ∃ RO, RO = routerOk ho fg lf re be := ⟨_, rfl⟩
  obtain ⟨NO, hNO⟩ : ∃ NO, NO = noneOk ho lf re be := ⟨_, rfl⟩
  have HRO := Lib.hid hRO
  have HNO := Lib.hid hNO
  clear h0 hf0 hUO hRO hNO hl1 hl2
  cases UO with
  | false =>
    go_enter Try.func37, Try.ntmps37
    go_wp2_with (go_at_call 63; refine (areUnits_calls _ os _ (h.out.gr (by (repeat (with_reducible first | exact Gr.refl _ | assumption | refine Gr.alloc ?_ _ | refine Gr.drew ?_ | refine Gr.drewN ?_ _ | refine Gr.trans ?_ (by assumption))); done)) hf.out).mono ?_; rintro e w9 ⟨rfl, hg9⟩; rw [← HUO.out])
    go_ret
    exact ⟨rfl, (by (repeat (with_reducible first | exact Gr.refl _ | assumption | refine Gr.alloc ?_ _ | refine Gr.drew ?_ | refine Gr.drewN ?_ _ | refine Gr.trans ?_ (by assumption))); done)⟩
  | true =>
    go_enter Try.func37, Try.ntmps37
    go_upto_region 3 with (go_at_call 63; refine (areUnits_calls _ os _ (h.out.gr (by (repeat (with_reducible first | exact Gr.refl _ | assumption | refine Gr.alloc ?_ _ | refine Gr.drew ?_ | refine Gr.drewN ?_ _ | refine Gr.trans ?_ (by assumption))); done)) hf.out).mono ?_; rintro e w9 ⟨rfl, hg9⟩; rw [← HUO.out]; obtain ⟨hs9, hc9⟩ := Gr.boxed (w := w) (cs := [.int .i64 ty, .int .i64 ho, .int .i64 fg, .int .i64 lf, .int .i64 re, .int .i64 be, .slice a1 n1 c1, .slice a2 n2 c2, .slice ao no co]) (t := 60) (w' := w9) (by (repeat (with_reducible first | exact Gr.refl _ | assumption | refine Gr.alloc ?_ _ | refine Gr.drew ?_ | refine Gr.drewN ?_ _ | refine Gr.trans ?_ (by assumption))); done))
    have HG9 := Lib.hid (show Gr w w9 from ((Gr.refl w).alloc _).trans hg9)
    go_cut [3] (fun v wx => v = .bool RO ∧ wx = w9)
    case first =>
      cases hc0 : (upto ho 255 : Bool) with
      | false =>
        go_upto_region 4 with (go_at_call 42; refine (upTo_calls _ _ _).mono ?_; rintro e wU ⟨rfl, rfl⟩)
        go_meet
        exact ⟨by rw [HRO.out]; simp [routerOk, hc0], rfl⟩
      | true =>
        cases hc1 : (upto fg 255 : Bool) with
        | false =>
          go_upto_region 4 with (go_at_call 42; refine (upTo_calls _ _ _).mono ?_; rintro e wU ⟨rfl, rfl⟩)
          go_meet
          exact ⟨by rw [HRO.out]; simp [routerOk, hc0, hc1], rfl⟩
        | true =>
          cases hc2 : (upto lf 65535 : Bool) with
          | false =>
            go_upto_region 4 with (go_at_call 42; refine (upTo_calls _ _ _).mono ?_; rintro e wU ⟨rfl, rfl⟩)
            go_meet
            exact ⟨by rw [HRO.out]; simp [routerOk, hc0, hc1, hc2], rfl⟩
          | true =>
            cases hc3 : (upto re 4294967295 : Bool) with
            | false =>
              go_upto_region 4 with (go_at_call 42; refine (upTo_calls _ _ _).mono ?_; rintro e wU ⟨rfl, rfl⟩)
              go_meet
              exact ⟨by rw [HRO.out]; simp [routerOk, hc0, hc1, hc2, hc3], rfl⟩
            | true =>
              cases hc4 : (upto be 4294967295 : Bool) with
              | false =>
                go_upto_region 4 with (go_at_call 42; refine (upTo_calls _ _ _).mono ?_; rintro e wU ⟨rfl, rfl⟩)
                go_meet
                exact ⟨by rw [HRO.out]; simp [routerOk, hc0, hc1, hc2, hc3, hc4], rfl⟩
              | true =>
                go_upto_region 4 with (go_at_call 42; refine (upTo_calls _ _ _).mono ?_; rintro e wU ⟨rfl, rfl⟩)
                go_meet
                exact ⟨by rw [HRO.out]; simp [routerOk, hc0, hc1, hc2, hc3, hc4], rfl⟩
    case rest =>
    obtain ⟨rfl, rfl⟩ := hcut
    go_upto_region 4 with fail
    go_cut [4] (fun v wx => v = .bool NO ∧ wx = wc)
    case first =>
      cases hc0 : (ho == 0 : Bool) with
      | false =>
        go_upto_region 5 with fail
        go_meet
        exact ⟨by rw [HNO.out]; simp [noneOk, hc0], rfl⟩
      | true =>
        cases hc1 : (lf == 0 : Bool) with
        | false =>
          go_upto_region 5 with fail
          go_meet
          exact ⟨by rw [HNO.out]; simp [noneOk, hc0, hc1], rfl⟩
        | true =>
          cases hc2 : (re == 0 : Bool) with
          | false =>
            go_upto_region 5 with fail
            go_meet
            exact ⟨by rw [HNO.out]; simp [noneOk, hc0, hc1, hc2], rfl⟩
          | true =>
            cases hc3 : (be == 0 : Bool) with
            | false =>
              go_upto_region 5 with fail
              go_meet
              exact ⟨by rw [HNO.out]; simp [noneOk, hc0, hc1, hc2, hc3], rfl⟩
            | true =>
              go_upto_region 5 with fail
              go_meet
              exact ⟨by rw [HNO.out]; simp [noneOk, hc0, hc1, hc2, hc3], rfl⟩
    case rest =>
    obtain ⟨rfl, rfl⟩ := hcut
    go_wp2_with fail
    go_region_held3 (fun w' => w'.cell? ⟨w.heap.size, 6, none⟩ = some (.slice a1 n1 c1) ∧ w'.cell? ⟨w.heap.size, 7, none⟩ = some (.slice a2 n2 c2)) (first | exact ⟨hc9 6, hc9 7⟩ | go_keep) (fail)
    by_cases e133 : ty = 133
    case pos =>
      subst e133
      cases NO with
      | false =>
        go_wp2_with (go_at_call 42; refine (upTo_calls _ _ _).mono ?_; rintro e wU ⟨rfl, rfl⟩)
        go_ret
        exact ⟨by simp [nbOk, HNO.out.symm], (HG9.out.trans (by (repeat (with_reducible first | exact Gr.refl _ | assumption | refine Gr.alloc ?_ _ | refine Gr.drew ?_ | refine Gr.drewN ?_ _ | refine Gr.trans ?_ (by assumption))); done))⟩
      | true =>
        cases hc0 : ((fg == 0) : Bool) with
        | false =>
          go_wp2_with (go_at_call 42; refine (upTo_calls _ _ _).mono ?_; rintro e wU ⟨rfl, rfl⟩)
          go_ret
          exact ⟨by simp [nbOk, HNO.out.symm, hc0], (HG9.out.trans (by (repeat (with_reducible first | exact Gr.refl _ | assumption | refine Gr.alloc ?_ _ | refine Gr.drew ?_ | refine Gr.drewN ?_ _ | refine Gr.trans ?_ (by assumption))); done))⟩
        | true =>
          cases hc1 : (((l1.length : Int) + (l2.length : Int) == 0) : Bool) with
          | false =>
            go_wp2_with (go_at_call 42; refine (upTo_calls _ _ _).mono ?_; rintro e wU ⟨rfl, rfl⟩)
            go_ret
            exact ⟨by simp [nbOk, HNO.out.symm, hc0, hc1], (HG9.out.trans (by (repeat (with_reducible first | exact Gr.refl _ | assumption | refine Gr.alloc ?_ _ | refine Gr.drew ?_ | refine Gr.drewN ?_ _ | refine Gr.trans ?_ (by assumption))); done))⟩
          | true =>
            go_wp2_with (go_at_call 42; refine (upTo_calls _ _ _).mono ?_; rintro e wU ⟨rfl, rfl⟩)
            go_ret
            exact ⟨by simp [nbOk, HNO.out.symm, hc0, hc1], (HG9.out.trans (by (repeat (with_reducible first | exact Gr.refl _ | assumption | refine Gr.alloc ?_ _ | refine Gr.drew ?_ | refine Gr.drewN ?_ _ | refine Gr.trans ?_ (by assumption))); done))⟩
    case neg =>
    have t133 : (ty == 133) = false := beq_eq_false_iff_ne.2 e133
    by_cases e134 : ty = 134
    case pos =>
      subst e134
      cases RO with
      | false =>
        go_wp2_with (go_at_call 42; refine (upTo_calls _ _ _).mono ?_; rintro e wU ⟨rfl, rfl⟩)
        go_ret
        exact ⟨by simp [nbOk, HRO.out.symm], (HG9.out.trans (by (repeat (with_reducible first | exact Gr.refl _ | assumption | refine Gr.alloc ?_ _ | refine Gr.drew ?_ | refine Gr.drewN ?_ _ | refine Gr.trans ?_ (by assumption))); done))⟩
      | true =>
        cases hc0 : (((l1.length : Int) + (l2.length : Int) == 0) : Bool) with
        | false =>
          go_wp2_with (go_at_call 42; refine (upTo_calls _ _ _).mono ?_; rintro e wU ⟨rfl, rfl⟩)
          go_ret
          exact ⟨by simp [nbOk, HRO.out.symm, hc0], (HG9.out.trans (by (repeat (with_reducible first | exact Gr.refl _ | assumption | refine Gr.alloc ?_ _ | refine Gr.drew ?_ | refine Gr.drewN ?_ _ | refine Gr.trans ?_ (by assumption))); done))⟩
        | true =>
          go_wp2_with (go_at_call 42; refine (upTo_calls _ _ _).mono ?_; rintro e wU ⟨rfl, rfl⟩)
          go_ret
          exact ⟨by simp [nbOk, HRO.out.symm, hc0], (HG9.out.trans (by (repeat (with_reducible first | exact Gr.refl _ | assumption | refine Gr.alloc ?_ _ | refine Gr.drew ?_ | refine Gr.drewN ?_ _ | refine Gr.trans ?_ (by assumption))); done))⟩
    case neg =>
    have t134 : (ty == 134) = false := beq_eq_false_iff_ne.2 e134
    by_cases e135 : ty = 135
    case pos =>
      subst e135
      cases NO with
      | false =>
        go_wp2_with (go_at_call 42; refine (upTo_calls _ _ _).mono ?_; rintro e wU ⟨rfl, rfl⟩)
        go_ret
        exact ⟨by simp [nbOk, HNO.out.symm], (HG9.out.trans (by (repeat (with_reducible first | exact Gr.refl _ | assumption | refine Gr.alloc ?_ _ | refine Gr.drew ?_ | refine Gr.drewN ?_ _ | refine Gr.trans ?_ (by assumption))); done))⟩
      | true =>
        cases hc0 : ((fg == 0) : Bool) with
        | false =>
          go_wp2_with (go_at_call 42; refine (upTo_calls _ _ _).mono ?_; rintro e wU ⟨rfl, rfl⟩)
          go_ret
          exact ⟨by simp [nbOk, HNO.out.symm, hc0], (HG9.out.trans (by (repeat (with_reducible first | exact Gr.refl _ | assumption | refine Gr.alloc ?_ _ | refine Gr.drew ?_ | refine Gr.drewN ?_ _ | refine Gr.trans ?_ (by assumption))); done))⟩
        | true =>
          cases hc1 : (((l1.length : Int) == 16) : Bool) with
          | false =>
            go_wp2_with (go_at_call 42; refine (upTo_calls _ _ _).mono ?_; rintro e wU ⟨rfl, rfl⟩)
            go_ret
            exact ⟨by simp [nbOk, HNO.out.symm, hc0, hc1], (HG9.out.trans (by (repeat (with_reducible first | exact Gr.refl _ | assumption | refine Gr.alloc ?_ _ | refine Gr.drew ?_ | refine Gr.drewN ?_ _ | refine Gr.trans ?_ (by assumption))); done))⟩
          | true =>
            cases hc2 : (((l2.length : Int) == 0) : Bool) with
            | false =>
              go_wp2_with (go_at_call 42; refine (upTo_calls _ _ _).mono ?_; rintro e wU ⟨rfl, rfl⟩)
              go_ret
              exact ⟨by simp [nbOk, HNO.out.symm, hc0, hc1, hc2], (HG9.out.trans (by (repeat (with_reducible first | exact Gr.refl _ | assumption | refine Gr.alloc ?_ _ | refine Gr.drew ?_ | refine Gr.drewN ?_ _ | refine Gr.trans ?_ (by assumption))); done))⟩
            | true =>
              go_wp2_with (go_at_call 42; refine (upTo_calls _ _ _).mono ?_; rintro e wU ⟨rfl, rfl⟩)
              go_ret
              exact ⟨by simp [nbOk, HNO.out.symm, hc0, hc1, hc2], (HG9.out.trans (by (repeat (with_reducible first | exact Gr.refl _ | assumption | refine Gr.alloc ?_ _ | refine Gr.drew ?_ | refine Gr.drewN ?_ _ | refine Gr.trans ?_ (by assumption))); done))⟩
    case neg =>
    have t135 : (ty == 135) = false := beq_eq_false_iff_ne.2 e135
    by_cases e136 : ty = 136
    case pos =>
      subst e136
      cases NO with
      | false =>
        go_wp2_with (go_at_call 42; refine (upTo_calls _ _ _).mono ?_; rintro e wU ⟨rfl, rfl⟩)
        go_ret
        exact ⟨by simp [nbOk, HNO.out.symm], (HG9.out.trans (by (repeat (with_reducible first | exact Gr.refl _ | assumption | refine Gr.alloc ?_ _ | refine Gr.drew ?_ | refine Gr.drewN ?_ _ | refine Gr.trans ?_ (by assumption))); done))⟩
      | true =>
        cases hc0 : (upto fg 255 : Bool) with
        | false =>
          go_wp2_with (go_at_call 42; refine (upTo_calls _ _ _).mono ?_; rintro e wU ⟨rfl, rfl⟩)
          go_ret
          exact ⟨by simp [nbOk, HNO.out.symm, hc0], (HG9.out.trans (by (repeat (with_reducible first | exact Gr.refl _ | assumption | refine Gr.alloc ?_ _ | refine Gr.drew ?_ | refine Gr.drewN ?_ _ | refine Gr.trans ?_ (by assumption))); done))⟩
        | true =>
          cases hc1 : (((l1.length : Int) == 16) : Bool) with
          | false =>
            go_wp2_with (go_at_call 42; refine (upTo_calls _ _ _).mono ?_; rintro e wU ⟨rfl, rfl⟩)
            go_ret
            exact ⟨by simp [nbOk, HNO.out.symm, hc0, hc1], (HG9.out.trans (by (repeat (with_reducible first | exact Gr.refl _ | assumption | refine Gr.alloc ?_ _ | refine Gr.drew ?_ | refine Gr.drewN ?_ _ | refine Gr.trans ?_ (by assumption))); done))⟩
          | true =>
            cases hc2 : (((l2.length : Int) == 0) : Bool) with
            | false =>
              go_wp2_with (go_at_call 42; refine (upTo_calls _ _ _).mono ?_; rintro e wU ⟨rfl, rfl⟩)
              go_ret
              exact ⟨by simp [nbOk, HNO.out.symm, hc0, hc1, hc2], (HG9.out.trans (by (repeat (with_reducible first | exact Gr.refl _ | assumption | refine Gr.alloc ?_ _ | refine Gr.drew ?_ | refine Gr.drewN ?_ _ | refine Gr.trans ?_ (by assumption))); done))⟩
            | true =>
              go_wp2_with (go_at_call 42; refine (upTo_calls _ _ _).mono ?_; rintro e wU ⟨rfl, rfl⟩)
              go_ret
              exact ⟨by simp [nbOk, HNO.out.symm, hc0, hc1, hc2], (HG9.out.trans (by (repeat (with_reducible first | exact Gr.refl _ | assumption | refine Gr.alloc ?_ _ | refine Gr.drew ?_ | refine Gr.drewN ?_ _ | refine Gr.trans ?_ (by assumption))); done))⟩
    case neg =>
    have t136 : (ty == 136) = false := beq_eq_false_iff_ne.2 e136
    by_cases e137 : ty = 137
    case pos =>
      subst e137
      cases NO with
      | false =>
        go_wp2_with (go_at_call 42; refine (upTo_calls _ _ _).mono ?_; rintro e wU ⟨rfl, rfl⟩)
        go_ret
        exact ⟨by simp [nbOk, HNO.out.symm], (HG9.out.trans (by (repeat (with_reducible first | exact Gr.refl _ | assumption | refine Gr.alloc ?_ _ | refine Gr.drew ?_ | refine Gr.drewN ?_ _ | refine Gr.trans ?_ (by assumption))); done))⟩
      | true =>
        cases hc0 : ((fg == 0) : Bool) with
        | false =>
          go_wp2_with (go_at_call 42; refine (upTo_calls _ _ _).mono ?_; rintro e wU ⟨rfl, rfl⟩)
          go_ret
          exact ⟨by simp [nbOk, HNO.out.symm, hc0], (HG9.out.trans (by (repeat (with_reducible first | exact Gr.refl _ | assumption | refine Gr.alloc ?_ _ | refine Gr.drew ?_ | refine Gr.drewN ?_ _ | refine Gr.trans ?_ (by assumption))); done))⟩
        | true =>
          cases hc1 : (((l1.length : Int) == 16) : Bool) with
          | false =>
            go_wp2_with (go_at_call 42; refine (upTo_calls _ _ _).mono ?_; rintro e wU ⟨rfl, rfl⟩)
            go_ret
            exact ⟨by simp [nbOk, HNO.out.symm, hc0, hc1], (HG9.out.trans (by (repeat (with_reducible first | exact Gr.refl _ | assumption | refine Gr.alloc ?_ _ | refine Gr.drew ?_ | refine Gr.drewN ?_ _ | refine Gr.trans ?_ (by assumption))); done))⟩
          | true =>
            cases hc2 : (((l2.length : Int) == 16) : Bool) with
            | false =>
              go_wp2_with (go_at_call 42; refine (upTo_calls _ _ _).mono ?_; rintro e wU ⟨rfl, rfl⟩)
              go_ret
              exact ⟨by simp [nbOk, HNO.out.symm, hc0, hc1, hc2], (HG9.out.trans (by (repeat (with_reducible first | exact Gr.refl _ | assumption | refine Gr.alloc ?_ _ | refine Gr.drew ?_ | refine Gr.drewN ?_ _ | refine Gr.trans ?_ (by assumption))); done))⟩
            | true =>
              go_wp2_with (go_at_call 42; refine (upTo_calls _ _ _).mono ?_; rintro e wU ⟨rfl, rfl⟩)
              go_ret
              exact ⟨by simp [nbOk, HNO.out.symm, hc0, hc1, hc2], (HG9.out.trans (by (repeat (with_reducible first | exact Gr.refl _ | assumption | refine Gr.alloc ?_ _ | refine Gr.drew ?_ | refine Gr.drewN ?_ _ | refine Gr.trans ?_ (by assumption))); done))⟩
    case neg =>
    have t137 : (ty == 137) = false := beq_eq_false_iff_ne.2 e137
    go_wp2_with fail
    go_ret
    exact ⟨by simp [nbOk, e133, e134, e135, e136, e137], (HG9.out.trans (by (repeat (with_reducible first | exact Gr.refl _ | assumption | refine Gr.alloc ?_ _ | refine Gr.drew ?_ | refine Gr.drewN ?_ _ | refine Gr.trans ?_ (by assumption))); done))⟩

end Go.Proofs.Ytoopkfnkmaaieaa
