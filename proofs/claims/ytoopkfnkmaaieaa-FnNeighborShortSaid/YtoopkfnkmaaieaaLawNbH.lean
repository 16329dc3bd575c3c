/-
  The law FnNeighborShort.
-/
import Derived.Test.YtoopkfnkmaaieaaLawNbSRS
import Derived.Test.YtoopkfnkmaaieaaLawNbSRA
import Derived.Test.YtoopkfnkmaaieaaLawNbSNS
import Derived.Test.YtoopkfnkmaaieaaLawNbSNA
import Derived.Test.YtoopkfnkmaaieaaLawNbSRD
namespace Go.Proofs.Ytoopkfnkmaaieaa
open Go.RowKit

set_option linter.unusedVariables false in
set_option maxRecDepth 100000 in
set_option maxHeartbeats 2000000 in
theorem lawNbShort_calls (k : Int) (ty ho fg lf re be : Int) (a1 : Option Addr) (n1 c1 : Nat) (a2 : Option Addr) (n2 c2 : Nat) (ao : Option Addr) (no co : Nat) (l1 l2 : List Int) (os : List Opt) (w : World) (h1 : IsB w (.slice a1 n1 c1) l1) (h2 : IsB w (.slice a2 n2 c2) l2) (h0 : IsOpts w (.slice ao no co) os) :
    Calls Try.prog 11 #[.agg #[.int .i64 ty, .int .i64 ho, .int .i64 fg, .int .i64 lf, .int .i64 re, .int .i64 be, .slice a1 n1 c1, .slice a2 n2 c2, .slice ao no co], .int .i64 k] w fun e w' => e = .returned (.bool true) ∧ Gr w w' := by
  cases hz : zz17 l1 l2 os with
  | false =>
    have HO := Lib.hid h0
    have HZ := Lib.hid hz
    clear h0 hz
    go_enter Try.func11, Try.ntmps11
    go_wp2_with (first
      | (go_at_call 36; refine (zz17_calls _ _ _ _ _ _ _ _ _ _ _ _ _ _ _ l1 l2 os _ (IsB.gr (by assumption) (by (repeat (with_reducible first | exact Gr.refl _ | assumption | refine Gr.alloc ?_ _ | refine Gr.drew ?_ | refine Gr.drewN ?_ _ | refine Gr.trans ?_ (by assumption))); done)) (IsB.gr (by assumption) (by (repeat (with_reducible first | exact Gr.refl _ | assumption | refine Gr.alloc ?_ _ | refine Gr.drew ?_ | refine Gr.drewN ?_ _ | refine Gr.trans ?_ (by assumption))); done)) (HO.out.gr (by (repeat (with_reducible first | exact Gr.refl _ | assumption | refine Gr.alloc ?_ _ | refine Gr.drew ?_ | refine Gr.drewN ?_ _ | refine Gr.trans ?_ (by assumption))); done))).mono ?_; rintro e w9 ⟨rfl, hg9⟩; rw [HZ.out]; obtain ⟨hs9, hc9⟩ := Gr.boxed (w := w) (cs := [.int .i64 ty, .int .i64 ho, .int .i64 fg, .int .i64 lf, .int .i64 re, .int .i64 be, .slice a1 n1 c1, .slice a2 n2 c2, .slice ao no co]) (t := 60) (w' := w9) (by (repeat (with_reducible first | exact Gr.refl _ | assumption | refine Gr.alloc ?_ _ | refine Gr.drew ?_ | refine Gr.drewN ?_ _ | refine Gr.trans ?_ (by assumption))); done)))
    go_ret
    exact ⟨rfl, (by (repeat (with_reducible first | exact Gr.refl _ | assumption | refine Gr.alloc ?_ _ | refine Gr.drew ?_ | refine Gr.drewN ?_ _ | refine Gr.trans ?_ (by assumption))); done)⟩
  | true =>
    have hz2 := hz
    simp only [zz17, Bool.and_eq_true, decide_eq_true_eq] at hz2
    have X9 := Lib.hid (show ∀ x ∈ os, x.data.length ≤ 2147483647 from (fitB_iff.1 hz2.2).2)
    have X8 := Lib.hid (show l1.length ≤ 2147483647 ∧ l2.length ≤ 2147483647 by omega)
    clear hz2
    cases hi : (unitsOk os && nbOk ty ho fg lf re be l1 l2) with
    | false =>
      have HO := Lib.hid h0
      have HZ := Lib.hid hz
      have HI := Lib.hid hi
      clear h0 hz hi
      go_enter Try.func11, Try.ntmps11
      go_wp2_with (first
      | (go_at_call 36; refine (zz17_calls _ _ _ _ _ _ _ _ _ _ _ _ _ _ _ l1 l2 os _ (IsB.gr (by assumption) (by (repeat (with_reducible first | exact Gr.refl _ | assumption | refine Gr.alloc ?_ _ | refine Gr.drew ?_ | refine Gr.drewN ?_ _ | refine Gr.trans ?_ (by assumption))); done)) (IsB.gr (by assumption) (by (repeat (with_reducible first | exact Gr.refl _ | assumption | refine Gr.alloc ?_ _ | refine Gr.drew ?_ | refine Gr.drewN ?_ _ | refine Gr.trans ?_ (by assumption))); done)) (HO.out.gr (by (repeat (with_reducible first | exact Gr.refl _ | assumption | refine Gr.alloc ?_ _ | refine Gr.drew ?_ | refine Gr.drewN ?_ _ | refine Gr.trans ?_ (by assumption))); done))).mono ?_; rintro e w9 ⟨rfl, hg9⟩; rw [HZ.out]; obtain ⟨hs9, hc9⟩ := Gr.boxed (w := w) (cs := [.int .i64 ty, .int .i64 ho, .int .i64 fg, .int .i64 lf, .int .i64 re, .int .i64 be, .slice a1 n1 c1, .slice a2 n2 c2, .slice ao no co]) (t := 60) (w' := w9) (by (repeat (with_reducible first | exact Gr.refl _ | assumption | refine Gr.alloc ?_ _ | refine Gr.drew ?_ | refine Gr.drewN ?_ _ | refine Gr.trans ?_ (by assumption))); done))
      | (go_at_call 37; refine (isNeighbor_calls _ _ _ _ _ _ _ _ _ _ _ _ _ _ _ l1 l2 os _ (IsB.gr (by assumption) (by (repeat (with_reducible first | exact Gr.refl _ | assumption | refine Gr.alloc ?_ _ | refine Gr.drew ?_ | refine Gr.drewN ?_ _ | refine Gr.trans ?_ (by assumption))); done)) (IsB.gr (by assumption) (by (repeat (with_reducible first | exact Gr.refl _ | assumption | refine Gr.alloc ?_ _ | refine Gr.drew ?_ | refine Gr.drewN ?_ _ | refine Gr.trans ?_ (by assumption))); done)) (HO.out.gr (by (repeat (with_reducible first | exact Gr.refl _ | assumption | refine Gr.alloc ?_ _ | refine Gr.drew ?_ | refine Gr.drewN ?_ _ | refine Gr.trans ?_ (by assumption))); done)) X9.out X8.out.1 X8.out.2).mono ?_; rintro e w9 ⟨rfl, hg9⟩; rw [HI.out]; obtain ⟨hs9, hc9⟩ := Gr.boxed (w := w) (cs := [.int .i64 ty, .int .i64 ho, .int .i64 fg, .int .i64 lf, .int .i64 re, .int .i64 be, .slice a1 n1 c1, .slice a2 n2 c2, .slice ao no co]) (t := 60) (w' := w9) (by (repeat (with_reducible first | exact Gr.refl _ | assumption | refine Gr.alloc ?_ _ | refine Gr.drew ?_ | refine Gr.drewN ?_ _ | refine Gr.trans ?_ (by assumption))); done)))
      go_ret
      exact ⟨rfl, (by (repeat (with_reducible first | exact Gr.refl _ | assumption | refine Gr.alloc ?_ _ | refine Gr.drew ?_ | refine Gr.drewN ?_ _ | refine Gr.trans ?_ (by assumption))); done)⟩
    | true =>
      clear X9 X8
      have hb := hi
      rw [Bool.and_eq_true] at hb
      have hb := hb.2
      have nil : ∀ l : List Int, l.length = 0 → l = [] := fun l => List.eq_nil_of_length_eq_zero
      by_cases e1 : ty = 133
      · subst e1
        rw [nbOk, if_pos rfl] at hb
        simp only [noneOk, Bool.and_eq_true, beq_iff_eq] at hb
        obtain ⟨⟨b1, b2, b3, b4⟩, b5, b6⟩ := hb
        obtain rfl := nil l1 (by omega)
        obtain rfl := nil l2 (by omega)
        subst b1 b2 b3 b4 b5
        exact lawNbSRS_calls a1 n1 c1 a2 n2 c2 ao no co os k w h1 h2 h0 hz hi
      · by_cases e2 : ty = 134
        · subst e2
          rw [nbOk, if_neg (by decide), if_pos rfl] at hb
          simp only [routerOk, Bool.and_eq_true, upto_iff, beq_iff_eq] at hb
          obtain ⟨⟨b1, b2, b3, b4, b5⟩, b6⟩ := hb
          obtain rfl := nil l1 (by omega)
          obtain rfl := nil l2 (by omega)
          exact lawNbSRA_calls ho fg lf re be a1 n1 c1 a2 n2 c2 ao no co os k w h1 h2 h0 hz hi b1 b2 b3 b4 b5
        · by_cases e3 : ty = 135
          · subst e3
            rw [nbOk, if_neg (by decide), if_neg (by decide), if_pos rfl] at hb
            simp only [noneOk, Bool.and_eq_true, beq_iff_eq] at hb
            obtain ⟨⟨b1, b2, b3, b4⟩, b5, b6, b7⟩ := hb
            obtain rfl := nil l2 (by omega)
            subst b1 b2 b3 b4 b5
            exact lawNbSNS_calls a1 n1 c1 a2 n2 c2 ao no co os l1 k w h1 h2 h0 hz hi (by omega)
          · by_cases e4 : ty = 136
            · subst e4
              rw [nbOk, if_neg (by decide), if_neg (by decide), if_neg (by decide), if_pos rfl] at hb
              simp only [noneOk, Bool.and_eq_true, upto_iff, beq_iff_eq] at hb
              obtain ⟨⟨b1, b2, b3, b4⟩, b5, b6, b7⟩ := hb
              obtain rfl := nil l2 (by omega)
              subst b1 b2 b3 b4
              exact lawNbSNA_calls fg a1 n1 c1 a2 n2 c2 ao no co os l1 k w h1 h2 h0 hz hi b5 (by omega)
            · by_cases e5 : ty = 137
              · subst e5
                rw [nbOk, if_neg (by decide), if_neg (by decide), if_neg (by decide), if_neg (by decide), if_pos rfl] at hb
                simp only [noneOk, Bool.and_eq_true, beq_iff_eq] at hb
                obtain ⟨⟨b1, b2, b3, b4⟩, b5, b6, b7⟩ := hb
                subst b1 b2 b3 b4 b5
                exact lawNbSRD_calls a1 n1 c1 a2 n2 c2 ao no co os l1 l2 k w h1 h2 h0 hz hi (by omega) (by omega)
              · rw [nbOk, if_neg e1, if_neg e2, if_neg e3, if_neg e4, if_neg e5] at hb
                cases hb

end Go.Proofs.Ytoopkfnkmaaieaa
