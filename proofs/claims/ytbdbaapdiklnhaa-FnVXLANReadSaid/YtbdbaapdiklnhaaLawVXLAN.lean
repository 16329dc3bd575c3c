/-
  The law FnVXLANRead.
-/
import Derived.Test.YtbdbaapdiklnhaaVXLAN
import Derived.Test.YtbdbaapdiklnhaaVXLANSpec
namespace Go.Proofs.Ytbdbaapdiklnhaa
open Go.RowKit

theorem vxlan_len (v : Bool) (n : Int) (po st ap : Bool) (g : Int) : (vxlan v n po st ap g).length = 8 := by simp [vxlan, sh, lo]
theorem vxlan_at (v : Bool) (n : Int) (po st ap : Bool) (g : Int) (l : List Int) (hn : 0 ≤ n ∧ n ≤ 16777215) (hg : 0 ≤ g ∧ g ≤ 65535) :
    decide (0 < bt (vxlan v n po st ap g ++ l) 0 / 8 % 2 * 8) = v ∧ (bt [0, bt (vxlan v n po st ap g ++ l) 4, bt (vxlan v n po st ap g ++ l) 5, bt (vxlan v n po st ap g ++ l) 6] 0 * 16777216 + bt [0, bt (vxlan v n po st ap g ++ l) 4, bt (vxlan v n po st ap g ++ l) 5, bt (vxlan v n po st ap g ++ l) 6] 1 * 65536 + bt [0, bt (vxlan v n po st ap g ++ l) 4, bt (vxlan v n po st ap g ++ l) 5, bt (vxlan v n po st ap g ++ l) 6] 2 * 256 + bt [0, bt (vxlan v n po st ap g ++ l) 4, bt (vxlan v n po st ap g ++ l) 5, bt (vxlan v n po st ap g ++ l) 6] 3) = n ∧ decide (0 < bt (vxlan v n po st ap g ++ l) 0 / 128 % 2 * 128) = po ∧ decide (0 < bt (vxlan v n po st ap g ++ l) 1 / 64 % 2 * 64) = st ∧ decide (0 < bt (vxlan v n po st ap g ++ l) 1 / 128 % 2 * 128) = false ∧ bt (vxlan v n po st ap g ++ l) 2 * 256 + bt (vxlan v n po st ap g ++ l) 3 = g := by
  have e0 : bt (vxlan v n po st ap g ++ l) 0 = bi po * 128 + bi v * 8 := rfl
  have e1 : bt (vxlan v n po st ap g ++ l) 1 = bi st * 64 + bi ap * 8 := rfl
  have e2 : bt (vxlan v n po st ap g ++ l) 2 = g / 256 % 256 := rfl
  have e3 : bt (vxlan v n po st ap g ++ l) 3 = g % 256 := rfl
  have e4 : bt (vxlan v n po st ap g ++ l) 4 = n * 256 / 65536 / 256 % 256 := rfl
  have e5 : bt (vxlan v n po st ap g ++ l) 5 = n * 256 / 65536 % 256 := rfl
  have e6 : bt (vxlan v n po st ap g ++ l) 6 = n * 256 / 256 % 256 := rfl
  rw [e0, e1, e2, e3, e4, e5, e6]
  refine ⟨?_, ?_, ?_, ?_, ?_, by omega⟩
  · cases v <;> cases po <;> decide
  · show 0 * 16777216 + (n * 256 / 65536 / 256 % 256) * 65536 + (n * 256 / 65536 % 256) * 256 + (n * 256 / 256 % 256) = n
    omega
  · cases v <;> cases po <;> decide
  · cases st <;> cases ap <;> decide
  · cases st <;> cases ap <;> decide

set_option maxRecDepth 100000 in
set_option maxHeartbeats 2000000 in
theorem lawVXLANRead_calls (v : Bool) (n : Int) (po st ap : Bool) (g : Int) (a2 : Option Addr) (n2 c2 : Nat) (l : List Int) (w : World) (h : IsB w (.slice a2 n2 c2) l) :
    Calls Try.prog 11 #[.agg #[.bool v, .int .i64 n, .bool po, .bool st, .bool ap, .int .i64 g], .slice a2 n2 c2] w fun e w' => e = .returned (.bool true) ∧ Gr w w' := by
  have g0 := fun ty => h.len (P := Try.prog) 24 ty 5 Try.underlying24
  by_cases hc0 : (l.length : Int) ≤ 2147483647
  case neg =>
    have hd0 := decide_eq_false hc0
    go_enter Try.func11, Try.ntmps11
    go_wp2_with (first
      | (go_at_call 42; refine (isVXLAN_calls _ _ _ _ _ _ _).mono ?_; rintro e w9 ⟨rfl, hg9⟩; obtain ⟨hs9, hc9⟩ := Gr.boxed (w := w) (cs := [.bool v, .int .i64 n, .bool po, .bool st, .bool ap, .int .i64 g]) (t := 70) (w' := w9) (by repeat (with_reducible first | exact Gr.refl _ | assumption | refine Gr.alloc ?_ _ | refine Gr.drew ?_ | refine Gr.drewN ?_ _ | refine Gr.trans ?_ (by assumption))))
      | (go_at_call 16; refine (isPayload_calls _ l _ (IsB.gr (by assumption) (by repeat (with_reducible first | exact Gr.refl _ | assumption | refine Gr.alloc ?_ _ | refine Gr.drew ?_ | refine Gr.drewN ?_ _ | refine Gr.trans ?_ (by assumption))))).mono ?_; rintro e w9 ⟨rfl, rfl⟩))
    go_ret
    exact ⟨rfl, (by repeat (with_reducible first | exact Gr.refl _ | assumption | refine Gr.alloc ?_ _ | refine Gr.drew ?_ | refine Gr.drewN ?_ _ | refine Gr.trans ?_ (by assumption)))⟩
  case pos =>
    cases hc1 : (isVXLAN n po st ap g : Bool) with
    | false =>
      go_enter Try.func11, Try.ntmps11
      go_wp2_with (first
      | (go_at_call 42; refine (isVXLAN_calls _ _ _ _ _ _ _).mono ?_; rintro e w9 ⟨rfl, hg9⟩; obtain ⟨hs9, hc9⟩ := Gr.boxed (w := w) (cs := [.bool v, .int .i64 n, .bool po, .bool st, .bool ap, .int .i64 g]) (t := 70) (w' := w9) (by repeat (with_reducible first | exact Gr.refl _ | assumption | refine Gr.alloc ?_ _ | refine Gr.drew ?_ | refine Gr.drewN ?_ _ | refine Gr.trans ?_ (by assumption))))
      | (go_at_call 16; refine (isPayload_calls _ l _ (IsB.gr (by assumption) (by repeat (with_reducible first | exact Gr.refl _ | assumption | refine Gr.alloc ?_ _ | refine Gr.drew ?_ | refine Gr.drewN ?_ _ | refine Gr.trans ?_ (by assumption))))).mono ?_; rintro e w9 ⟨rfl, rfl⟩))
      go_ret
      exact ⟨rfl, (by repeat (with_reducible first | exact Gr.refl _ | assumption | refine Gr.alloc ?_ _ | refine Gr.drew ?_ | refine Gr.drewN ?_ _ | refine Gr.trans ?_ (by assumption)))⟩
    | true =>
      cases hc2 : (isPay l : Bool) with
      | false =>
        go_enter Try.func11, Try.ntmps11
        go_wp2_with (first
      | (go_at_call 42; refine (isVXLAN_calls _ _ _ _ _ _ _).mono ?_; rintro e w9 ⟨rfl, hg9⟩; obtain ⟨hs9, hc9⟩ := Gr.boxed (w := w) (cs := [.bool v, .int .i64 n, .bool po, .bool st, .bool ap, .int .i64 g]) (t := 70) (w' := w9) (by repeat (with_reducible first | exact Gr.refl _ | assumption | refine Gr.alloc ?_ _ | refine Gr.drew ?_ | refine Gr.drewN ?_ _ | refine Gr.trans ?_ (by assumption))))
      | (go_at_call 16; refine (isPayload_calls _ l _ (IsB.gr (by assumption) (by repeat (with_reducible first | exact Gr.refl _ | assumption | refine Gr.alloc ?_ _ | refine Gr.drew ?_ | refine Gr.drewN ?_ _ | refine Gr.trans ?_ (by assumption))))).mono ?_; rintro e w9 ⟨rfl, rfl⟩))
        go_ret
        exact ⟨rfl, (by repeat (with_reducible first | exact Gr.refl _ | assumption | refine Gr.alloc ?_ _ | refine Gr.drew ?_ | refine Gr.drewN ?_ _ | refine Gr.trans ?_ (by assumption)))⟩
      | true =>
        have HU := hc1
        simp only [isVXLAN, Bool.and_eq_true, upto_iff] at HU
        obtain ⟨⟨⟨u1, u2⟩, u3⟩, -⟩ := HU
        obtain rfl : ap = false := by simpa using u3
        have hl2 := isPay_iff.1 hc2
        have X0 := Lib.hid u1
        have hfl : [vxlan v n po st false g, l].flatten = vxlan v n po st false g ++ l := by simp
        have hln := vxlan_len v n po st false g
        obtain ⟨x1, x2, x3, x4, x5, x6⟩ := vxlan_at v n po st false g l u1 u2
        rw [← hfl] at x1 x2 x3 x4 x5 x6
        have hlen : [vxlan v n po st false g, l].flatten.length = 8 + l.length := by rw [hfl]; simp [hln]
        have x7 : [vxlan v n po st false g, l].flatten.drop 8 = l := by
          rw [hfl]
          exact drop_pre hln
        have XL := Lib.hid (show [vxlan v n po st false g, l].flatten.length ≤ 70368744177664 ∧ 8 ≤ [vxlan v n po st false g, l].flatten.length ∧ [vxlan v n po st false g, l].flatten.length ≤ 1000000 by rw [hlen]; omega)
        have X1 := Lib.hid x1
        have X2 := Lib.hid x2
        have X3 := Lib.hid x3
        have X4 := Lib.hid x4
        have X5 := Lib.hid x5
        have X6 := Lib.hid x6
        have X7 := Lib.hid x7
        clear x1 x2 x3 x4 x5 x6 x7 hfl hln hlen hl2 u1 u2 u3
        go_enter Try.func11, Try.ntmps11
        go_wp2_with (first
      | (go_at_call 42; refine (isVXLAN_calls _ _ _ _ _ _ _).mono ?_; rintro e w9 ⟨rfl, hg9⟩; obtain ⟨hs9, hc9⟩ := Gr.boxed (w := w) (cs := [.bool v, .int .i64 n, .bool po, .bool st, .bool false, .int .i64 g]) (t := 70) (w' := w9) (by repeat (with_reducible first | exact Gr.refl _ | assumption | refine Gr.alloc ?_ _ | refine Gr.drew ?_ | refine Gr.drewN ?_ _ | refine Gr.trans ?_ (by assumption))))
      | (go_at_call 16; refine (isPayload_calls _ l _ (IsB.gr (by assumption) (by repeat (with_reducible first | exact Gr.refl _ | assumption | refine Gr.alloc ?_ _ | refine Gr.drew ?_ | refine Gr.drewN ?_ _ | refine Gr.trans ?_ (by assumption))))).mono ?_; rintro e w9 ⟨rfl, rfl⟩)
      | (go_at_call 44; refine (vxlan_calls _ _ _ _ _ _ _ X0.out).mono ?_; rintro e w9 ⟨_, _, _, rfl, ho9, hg9⟩; have hb9 := ho9.isB; obtain ⟨hs9, hc9⟩ := Gr.boxed (w := w) (cs := [.bool v, .int .i64 n, .bool po, .bool st, .bool false, .int .i64 g]) (t := 70) (w' := w9) (by repeat (with_reducible first | exact Gr.refl _ | assumption | refine Gr.alloc ?_ _ | refine Gr.drew ?_ | refine Gr.drewN ?_ _ | refine Gr.trans ?_ (by assumption))))
      | (go_at_call 18; refine (joined_calls _ [vxlan v n po st false g, l] _ (isBs_at _ _ [vxlan v n po st false g, l] _ (Reads.cons (IsB.gr (by assumption) (by repeat (with_reducible first | exact Gr.refl _ | assumption | refine Gr.alloc ?_ _ | refine Gr.drew ?_ | refine Gr.drewN ?_ _ | refine Gr.trans ?_ (by assumption)))) (Reads.cons (IsB.gr (by assumption) (by repeat (with_reducible first | exact Gr.refl _ | assumption | refine Gr.alloc ?_ _ | refine Gr.drew ?_ | refine Gr.drewN ?_ _ | refine Gr.trans ?_ (by assumption)))) (Reads.nil _))) _ rfl _ (by simp)) XL.out.1 (by simp)).mono ?_; rintro e w9 ⟨_, _, _, rfl, ho9, hg9⟩; have hb9 := ho9.isB; obtain ⟨hs9, hc9⟩ := Gr.boxed (w := w) (cs := [.bool v, .int .i64 n, .bool po, .bool st, .bool false, .int .i64 g]) (t := 70) (w' := w9) (by repeat (with_reducible first | exact Gr.refl _ | assumption | refine Gr.alloc ?_ _ | refine Gr.drew ?_ | refine Gr.drewN ?_ _ | refine Gr.trans ?_ (by assumption))))
      | (go_at_call 43; refine (vxlanRead_calls _ _ _ (by assumption) XL.out.2.1 XL.out.2.2).mono ?_; rintro e w9 ⟨_, _, _, rfl, hbp, hg9⟩; simp only [gt_iff_lt]; rw [X1.out, X2.out, X3.out, X4.out, X5.out, X6.out]; rw [X7.out] at hbp; obtain ⟨hs9, hc9⟩ := Gr.boxed (w := w) (cs := [.bool v, .int .i64 n, .bool po, .bool st, .bool false, .int .i64 g]) (t := 70) (w' := w9) (by repeat (with_reducible first | exact Gr.refl _ | assumption | refine Gr.alloc ?_ _ | refine Gr.drew ?_ | refine Gr.drewN ?_ _ | refine Gr.trans ?_ (by assumption))))
      | (go_at_call 20; refine (same_calls _ _ _ _ _ (IsB.gr (by assumption) (by repeat (with_reducible first | exact Gr.refl _ | assumption | refine Gr.alloc ?_ _ | refine Gr.drew ?_ | refine Gr.drewN ?_ _ | refine Gr.trans ?_ (by assumption)))) (IsB.gr (by assumption) (by repeat (with_reducible first | exact Gr.refl _ | assumption | refine Gr.alloc ?_ _ | refine Gr.drew ?_ | refine Gr.drewN ?_ _ | refine Gr.trans ?_ (by assumption))))).mono ?_; rintro e w9 ⟨rfl, rfl⟩))
        go_ret
        exact ⟨by simp, (by repeat (with_reducible first | exact Gr.refl _ | assumption | refine Gr.alloc ?_ _ | refine Gr.drew ?_ | refine Gr.drewN ?_ _ | refine Gr.trans ?_ (by assumption)))⟩

end Go.Proofs.Ytbdbaapdiklnhaa
