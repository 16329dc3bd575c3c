/-
  The law FnICMPRead.
-/
import Derived.Test.YtbdbaapdiklnhaaICMP
import Derived.Test.YtbdbaapdiklnhaaICMPSpec
namespace Go.Proofs.Ytbdbaapdiklnhaa
open Go.RowKit

theorem icmp_at (t c k j q : Int) (l : List Int) (ht : 0 ≤ t ∧ t ≤ 255) (hc : 0 ≤ c ∧ c ≤ 255) (hk : 0 ≤ k ∧ k ≤ 65535) (hj : 0 ≤ j ∧ j ≤ 65535) (hq : 0 ≤ q ∧ q ≤ 65535) :
    bt (icmp t c k j q ++ l) 0 = t ∧ bt (icmp t c k j q ++ l) 1 = c ∧ bt (icmp t c k j q ++ l) 2 * 256 + bt (icmp t c k j q ++ l) 3 = k ∧ bt (icmp t c k j q ++ l) 4 * 256 + bt (icmp t c k j q ++ l) 5 = j ∧ bt (icmp t c k j q ++ l) 6 * 256 + bt (icmp t c k j q ++ l) 7 = q := by
  refine ⟨?_, ?_, ?_, ?_, ?_⟩
  · show t % 256 = t; omega
  · show c % 256 = c; omega
  · show k / 256 % 256 * 256 + k % 256 = k; omega
  · show j / 256 % 256 * 256 + j % 256 = j; omega
  · show q / 256 % 256 * 256 + q % 256 = q; omega

set_option maxRecDepth 100000 in
set_option maxHeartbeats 2000000 in
theorem lawICMPRead_calls (t c k j q : Int) (a2 : Option Addr) (n2 c2 : Nat) (l : List Int) (w : World) (h : IsB w (.slice a2 n2 c2) l) :
    Calls Try.prog 4 #[.agg #[.int .i64 t, .int .i64 c, .int .i64 k, .int .i64 j, .int .i64 q], .slice a2 n2 c2] w fun e w' => e = .returned (.bool true) ∧ Gr w w' := by
  have g0 := fun ty => h.len (P := Try.prog) 24 ty 5 Try.underlying24
  by_cases hc0 : (l.length : Int) ≤ 2147483647
  case neg =>
    have hd0 := decide_eq_false hc0
    go_enter Try.func4, Try.ntmps4
    go_wp2_with (first
      | (go_at_call 21; refine (isICMP_calls _ _ _ _ _ _).mono ?_; rintro e w9 ⟨rfl, hg9⟩; obtain ⟨hs9, hc9⟩ := Gr.boxed (w := w) (cs := [.int .i64 t, .int .i64 c, .int .i64 k, .int .i64 j, .int .i64 q]) (t := 34) (w' := w9) (by repeat (with_reducible first | exact Gr.refl _ | assumption | refine Gr.alloc ?_ _ | refine Gr.drew ?_ | refine Gr.drewN ?_ _ | refine Gr.trans ?_ (by assumption))))
      | (go_at_call 16; refine (isPayload_calls _ l _ (IsB.gr (by assumption) (by repeat (with_reducible first | exact Gr.refl _ | assumption | refine Gr.alloc ?_ _ | refine Gr.drew ?_ | refine Gr.drewN ?_ _ | refine Gr.trans ?_ (by assumption))))).mono ?_; rintro e w9 ⟨rfl, rfl⟩))
    go_ret
    exact ⟨rfl, (by repeat (with_reducible first | exact Gr.refl _ | assumption | refine Gr.alloc ?_ _ | refine Gr.drew ?_ | refine Gr.drewN ?_ _ | refine Gr.trans ?_ (by assumption)))⟩
  case pos =>
    cases hc1 : (isICMP t c j q : Bool) with
    | false =>
      go_enter Try.func4, Try.ntmps4
      go_wp2_with (first
      | (go_at_call 21; refine (isICMP_calls _ _ _ _ _ _).mono ?_; rintro e w9 ⟨rfl, hg9⟩; obtain ⟨hs9, hc9⟩ := Gr.boxed (w := w) (cs := [.int .i64 t, .int .i64 c, .int .i64 k, .int .i64 j, .int .i64 q]) (t := 34) (w' := w9) (by repeat (with_reducible first | exact Gr.refl _ | assumption | refine Gr.alloc ?_ _ | refine Gr.drew ?_ | refine Gr.drewN ?_ _ | refine Gr.trans ?_ (by assumption))))
      | (go_at_call 16; refine (isPayload_calls _ l _ (IsB.gr (by assumption) (by repeat (with_reducible first | exact Gr.refl _ | assumption | refine Gr.alloc ?_ _ | refine Gr.drew ?_ | refine Gr.drewN ?_ _ | refine Gr.trans ?_ (by assumption))))).mono ?_; rintro e w9 ⟨rfl, rfl⟩))
      go_ret
      exact ⟨rfl, (by repeat (with_reducible first | exact Gr.refl _ | assumption | refine Gr.alloc ?_ _ | refine Gr.drew ?_ | refine Gr.drewN ?_ _ | refine Gr.trans ?_ (by assumption)))⟩
    | true =>
      cases hc2 : (isPay l : Bool) with
      | false =>
        go_enter Try.func4, Try.ntmps4
        go_wp2_with (first
      | (go_at_call 21; refine (isICMP_calls _ _ _ _ _ _).mono ?_; rintro e w9 ⟨rfl, hg9⟩; obtain ⟨hs9, hc9⟩ := Gr.boxed (w := w) (cs := [.int .i64 t, .int .i64 c, .int .i64 k, .int .i64 j, .int .i64 q]) (t := 34) (w' := w9) (by repeat (with_reducible first | exact Gr.refl _ | assumption | refine Gr.alloc ?_ _ | refine Gr.drew ?_ | refine Gr.drewN ?_ _ | refine Gr.trans ?_ (by assumption))))
      | (go_at_call 16; refine (isPayload_calls _ l _ (IsB.gr (by assumption) (by repeat (with_reducible first | exact Gr.refl _ | assumption | refine Gr.alloc ?_ _ | refine Gr.drew ?_ | refine Gr.drewN ?_ _ | refine Gr.trans ?_ (by assumption))))).mono ?_; rintro e w9 ⟨rfl, rfl⟩))
        go_ret
        exact ⟨rfl, (by repeat (with_reducible first | exact Gr.refl _ | assumption | refine Gr.alloc ?_ _ | refine Gr.drew ?_ | refine Gr.drewN ?_ _ | refine Gr.trans ?_ (by assumption)))⟩
      | true =>
        have HU := hc1
        simp only [isICMP, Bool.and_eq_true, upto_iff] at HU
        obtain ⟨⟨⟨u1, u2⟩, u3⟩, u4⟩ := HU
        have hl2 := isPay_iff.1 hc2
        have X0 := Lib.hid hl2
        obtain ⟨S, hS⟩ : ∃ S, S = icmpCk t c j q l := ⟨_, rfl⟩
        have hSb := icmpCk_bd t c j q h.bytes
        rw [← hS] at hSb
        have HS := Lib.hid hS
        clear hS
        have hfl : [icmp t c S j q, l].flatten = icmp t c S j q ++ l := by simp
        have hln := icmp_len t c S j q
        obtain ⟨x1, x2, x3, x4, x5⟩ := icmp_at t c S j q l u1 u2 hSb u3 u4
        rw [← hfl] at x1 x2 x3 x4 x5
        have hlen : [icmp t c S j q, l].flatten.length = 8 + l.length := by rw [hfl]; simp [hln]
        have x6 : [icmp t c S j q, l].flatten.drop 8 = l := by
          rw [hfl]
          exact drop_pre hln
        have XL := Lib.hid (show [icmp t c S j q, l].flatten.length ≤ 70368744177664 ∧ 8 ≤ [icmp t c S j q, l].flatten.length ∧ [icmp t c S j q, l].flatten.length ≤ 1000000 by rw [hlen]; omega)
        have X1 := Lib.hid x1
        have X2 := Lib.hid x2
        have X3 := Lib.hid x3
        have X4 := Lib.hid x4
        have X5 := Lib.hid x5
        have X6 := Lib.hid x6
        clear x1 x2 x3 x4 x5 x6 hfl hln hlen hl2 hSb u1 u2 u3 u4
        go_enter Try.func4, Try.ntmps4
        go_wp2_with (first
      | (go_at_call 21; refine (isICMP_calls _ _ _ _ _ _).mono ?_; rintro e w9 ⟨rfl, hg9⟩; obtain ⟨hs9, hc9⟩ := Gr.boxed (w := w) (cs := [.int .i64 t, .int .i64 c, .int .i64 k, .int .i64 j, .int .i64 q]) (t := 34) (w' := w9) (by repeat (with_reducible first | exact Gr.refl _ | assumption | refine Gr.alloc ?_ _ | refine Gr.drew ?_ | refine Gr.drewN ?_ _ | refine Gr.trans ?_ (by assumption))))
      | (go_at_call 16; refine (isPayload_calls _ l _ (IsB.gr (by assumption) (by repeat (with_reducible first | exact Gr.refl _ | assumption | refine Gr.alloc ?_ _ | refine Gr.drew ?_ | refine Gr.drewN ?_ _ | refine Gr.trans ?_ (by assumption))))).mono ?_; rintro e w9 ⟨rfl, rfl⟩)
      | (go_at_call 22; refine (wholeICMP_calls _ _ _ _ _ _ _ _ l _ (IsB.gr (by assumption) (by repeat (with_reducible first | exact Gr.refl _ | assumption | refine Gr.alloc ?_ _ | refine Gr.drew ?_ | refine Gr.drewN ?_ _ | refine Gr.trans ?_ (by assumption)))) X0.out).mono ?_; rintro e wU ⟨rfl, hgU⟩; rw [← HS.out]; obtain ⟨hs9, hc9⟩ := Gr.boxed (w := w) (cs := [.int .i64 t, .int .i64 c, .int .i64 k, .int .i64 j, .int .i64 q]) (t := 34) (w' := wU) (by repeat (with_reducible first | exact Gr.refl _ | assumption | refine Gr.alloc ?_ _ | refine Gr.drew ?_ | refine Gr.drewN ?_ _ | refine Gr.trans ?_ (by assumption))))
      | (go_at_call 24; refine (icmp_calls _ _ _ _ _ _).mono ?_; rintro e w9 ⟨_, _, _, rfl, ho9, hg9⟩; have hb9 := ho9.isB; obtain ⟨hs9, hc9⟩ := Gr.boxed (w := w) (cs := [.int .i64 t, .int .i64 c, .int .i64 k, .int .i64 j, .int .i64 q]) (t := 34) (w' := w9) (by repeat (with_reducible first | exact Gr.refl _ | assumption | refine Gr.alloc ?_ _ | refine Gr.drew ?_ | refine Gr.drewN ?_ _ | refine Gr.trans ?_ (by assumption))); obtain ⟨hs8, hc8⟩ := Gr.boxed (w := wU) (cs := [.int .i64 t, .int .i64 c, .int .i64 S, .int .i64 j, .int .i64 q]) (t := 34) (w' := w9) (by repeat (with_reducible first | exact Gr.refl _ | assumption | refine Gr.alloc ?_ _ | refine Gr.drew ?_ | refine Gr.drewN ?_ _ | refine Gr.trans ?_ (by assumption))))
      | (go_at_call 18; refine (joined_calls _ [icmp t c S j q, l] _ (isBs_at _ _ [icmp t c S j q, l] _ (Reads.cons (IsB.gr (by assumption) (by repeat (with_reducible first | exact Gr.refl _ | assumption | refine Gr.alloc ?_ _ | refine Gr.drew ?_ | refine Gr.drewN ?_ _ | refine Gr.trans ?_ (by assumption)))) (Reads.cons (IsB.gr (by assumption) (by repeat (with_reducible first | exact Gr.refl _ | assumption | refine Gr.alloc ?_ _ | refine Gr.drew ?_ | refine Gr.drewN ?_ _ | refine Gr.trans ?_ (by assumption)))) (Reads.nil _))) _ rfl _ (by simp)) XL.out.1 (by simp)).mono ?_; rintro e w9 ⟨_, _, _, rfl, ho9, hg9⟩; have hb9 := ho9.isB; obtain ⟨hs9, hc9⟩ := Gr.boxed (w := w) (cs := [.int .i64 t, .int .i64 c, .int .i64 k, .int .i64 j, .int .i64 q]) (t := 34) (w' := w9) (by repeat (with_reducible first | exact Gr.refl _ | assumption | refine Gr.alloc ?_ _ | refine Gr.drew ?_ | refine Gr.drewN ?_ _ | refine Gr.trans ?_ (by assumption))); obtain ⟨hs8, hc8⟩ := Gr.boxed (w := wU) (cs := [.int .i64 t, .int .i64 c, .int .i64 S, .int .i64 j, .int .i64 q]) (t := 34) (w' := w9) (by repeat (with_reducible first | exact Gr.refl _ | assumption | refine Gr.alloc ?_ _ | refine Gr.drew ?_ | refine Gr.drewN ?_ _ | refine Gr.trans ?_ (by assumption))))
      | (go_at_call 23; refine (icmpRead_calls _ _ _ (by assumption) XL.out.2.1 XL.out.2.2).mono ?_; rintro e w9 ⟨_, _, _, rfl, hbp, hg9⟩; rw [X1.out, X2.out, X3.out, X4.out, X5.out]; rw [X6.out] at hbp; obtain ⟨hs9, hc9⟩ := Gr.boxed (w := w) (cs := [.int .i64 t, .int .i64 c, .int .i64 k, .int .i64 j, .int .i64 q]) (t := 34) (w' := w9) (by repeat (with_reducible first | exact Gr.refl _ | assumption | refine Gr.alloc ?_ _ | refine Gr.drew ?_ | refine Gr.drewN ?_ _ | refine Gr.trans ?_ (by assumption))); obtain ⟨hs8, hc8⟩ := Gr.boxed (w := wU) (cs := [.int .i64 t, .int .i64 c, .int .i64 S, .int .i64 j, .int .i64 q]) (t := 34) (w' := w9) (by repeat (with_reducible first | exact Gr.refl _ | assumption | refine Gr.alloc ?_ _ | refine Gr.drew ?_ | refine Gr.drewN ?_ _ | refine Gr.trans ?_ (by assumption))))
      | (go_at_call 20; refine (same_calls _ _ _ _ _ (IsB.gr (by assumption) (by repeat (with_reducible first | exact Gr.refl _ | assumption | refine Gr.alloc ?_ _ | refine Gr.drew ?_ | refine Gr.drewN ?_ _ | refine Gr.trans ?_ (by assumption)))) (IsB.gr (by assumption) (by repeat (with_reducible first | exact Gr.refl _ | assumption | refine Gr.alloc ?_ _ | refine Gr.drew ?_ | refine Gr.drewN ?_ _ | refine Gr.trans ?_ (by assumption))))).mono ?_; rintro e w9 ⟨rfl, rfl⟩))
        go_ret
        exact ⟨by simp, (by repeat (with_reducible first | exact Gr.refl _ | assumption | refine Gr.alloc ?_ _ | refine Gr.drew ?_ | refine Gr.drewN ?_ _ | refine Gr.trans ?_ (by assumption)))⟩

end Go.Proofs.Ytbdbaapdiklnhaa
