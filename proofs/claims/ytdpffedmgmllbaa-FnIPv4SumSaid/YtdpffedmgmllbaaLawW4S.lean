/-
  The law FnIPv4Sum.
-/
import Derived.Test.YtdpffedmgmllbaaW4Calls
namespace Go.Proofs.Ytdpffedmgmllbaa
open Go.RowKit

theorem tot_app : ∀ (A B : List Int), A.length % 2 = 0 → tot (A ++ B) = tot A + tot B
  | [], B, _ => by simp [tot]
  | [x], B, h => by simp at h
  | x :: y :: r, B, h => by
    have ih := tot_app r B (by simp only [List.length_cons] at h; omega)
    simp only [List.cons_append, tot, ih]
    omega
/-- a checksum in its place: none is left -/
theorem cks_zero (A B : List Int) (hA : A.length % 2 = 0) (hb : AllB (A ++ ([0, 0] ++ B))) (hp : 0 < tot (A ++ ([0, 0] ++ B))) (c : Int) (hc : cks (A ++ ([0, 0] ++ B)) = c) : cks (A ++ ([c / 256 % 256, c % 256] ++ B)) = 0 := by
  have h0 := cks_fd hb
  rw [hc] at h0
  have t0 : tot (A ++ ([0, 0] ++ B)) = tot A + tot B := by
    rw [tot_app _ _ hA]; simp only [List.cons_append, List.nil_append, tot]; omega
  have hf := fd_bd (n := tot (A ++ ([0, 0] ++ B)))
  have t1 : tot (A ++ ([c / 256 % 256, c % 256] ++ B)) = tot A + (c + tot B) := by
    rw [tot_app _ _ hA]; simp only [List.cons_append, List.nil_append, tot]; omega
  have hb' : AllB (A ++ ([c / 256 % 256, c % 256] ++ B)) := by
    intro x hx
    rcases List.mem_append.1 hx with hx | hx
    · exact hb x (List.mem_append_left _ hx)
    · rcases List.mem_append.1 hx with hx | hx
      · simp at hx; rcases hx with rfl | rfl <;> omega
      · exact hb x (List.mem_append_right _ (List.mem_append_right _ hx))
  rw [cks_fd hb', t1]
  rw [t0] at h0 hp hf
  unfold fd at h0 ⊢
  rw [if_neg (by omega)] at h0
  split <;> omega

set_option maxRecDepth 100000 in
set_option maxHeartbeats 4000000 in
theorem lawIPv4Sum_calls (wo sv ln idn fl fo tt pr ck : Int) (a1 : Option Addr) (n1 c1 : Nat) (a2 : Option Addr) (n2 c2 : Nat) (ao : Option Addr) (no co : Nat) (a3 : Option Addr) (n3 c3 : Nat) (l1 l2 l : List Int) (os : List Opt) (w : World) (h1 : IsB w (.slice a1 n1 c1) l1) (h2 : IsB w (.slice a2 n2 c2) l2) (h0 : IsOpts w (.slice ao no co) os) (h3 : IsB w (.slice a3 n3 c3) l) :
    Calls Try.prog 7 #[.agg #[.int .i64 wo, .int .i64 sv, .int .i64 ln, .int .i64 idn, .int .i64 fl, .int .i64 fo, .int .i64 tt, .int .i64 pr, .int .i64 ck, .slice a1 n1 c1, .slice a2 n2 c2, .slice ao no co], .slice a3 n3 c3] w fun e w' => e = .returned (.bool true) ∧ Gr w w' := by
  have g3 := fun ty => h3.len (P := Try.prog) 25 ty 5 Try.underlying25
  have HO := Lib.hid h0
  clear h0
  cases hc0 : (zz3 l1 l2 os : Bool) with
  | false =>
    go_enter Try.func7, Try.ntmps7
    go_wp2_with (first
      | (go_at_call 28; refine (zz3_calls _ _ _ _ _ _ _ _ _ _ _ _ _ _ _ _ _ _ l1 l2 os _ (IsB.gr (by assumption) (by (repeat (with_reducible first | exact Gr.refl _ | assumption | refine Gr.alloc ?_ _ | refine Gr.drew ?_ | refine Gr.drewN ?_ _ | refine Gr.trans ?_ (by assumption))); done)) (IsB.gr (by assumption) (by (repeat (with_reducible first | exact Gr.refl _ | assumption | refine Gr.alloc ?_ _ | refine Gr.drew ?_ | refine Gr.drewN ?_ _ | refine Gr.trans ?_ (by assumption))); done)) (HO.out.gr (by (repeat (with_reducible first | exact Gr.refl _ | assumption | refine Gr.alloc ?_ _ | refine Gr.drew ?_ | refine Gr.drewN ?_ _ | refine Gr.trans ?_ (by assumption))); done))).mono ?_; rintro e w9 ⟨rfl, hg9⟩; obtain ⟨hs9, hc9⟩ := Gr.boxed (w := w) (cs := [.int .i64 wo, .int .i64 sv, .int .i64 ln, .int .i64 idn, .int .i64 fl, .int .i64 fo, .int .i64 tt, .int .i64 pr, .int .i64 ck, .slice a1 n1 c1, .slice a2 n2 c2, .slice ao no co]) (t := 51) (w' := w9) (by (repeat (with_reducible first | exact Gr.refl _ | assumption | refine Gr.alloc ?_ _ | refine Gr.drew ?_ | refine Gr.drewN ?_ _ | refine Gr.trans ?_ (by assumption))); done))
      | (go_at_call 29; refine (isIPv4_calls _ _ _ _ _ _ _ _ _ _ _ _ _ _ _ _ _ _ l1 l2 os _ (IsB.gr (by assumption) (by (repeat (with_reducible first | exact Gr.refl _ | assumption | refine Gr.alloc ?_ _ | refine Gr.drew ?_ | refine Gr.drewN ?_ _ | refine Gr.trans ?_ (by assumption))); done)) (IsB.gr (by assumption) (by (repeat (with_reducible first | exact Gr.refl _ | assumption | refine Gr.alloc ?_ _ | refine Gr.drew ?_ | refine Gr.drewN ?_ _ | refine Gr.trans ?_ (by assumption))); done)) (HO.out.gr (by (repeat (with_reducible first | exact Gr.refl _ | assumption | refine Gr.alloc ?_ _ | refine Gr.drew ?_ | refine Gr.drewN ?_ _ | refine Gr.trans ?_ (by assumption))); done)) X9.out).mono ?_; rintro e w9 ⟨rfl, hg9⟩; obtain ⟨hs9, hc9⟩ := Gr.boxed (w := w) (cs := [.int .i64 wo, .int .i64 sv, .int .i64 ln, .int .i64 idn, .int .i64 fl, .int .i64 fo, .int .i64 tt, .int .i64 pr, .int .i64 ck, .slice a1 n1 c1, .slice a2 n2 c2, .slice ao no co]) (t := 51) (w' := w9) (by (repeat (with_reducible first | exact Gr.refl _ | assumption | refine Gr.alloc ?_ _ | refine Gr.drew ?_ | refine Gr.drewN ?_ _ | refine Gr.trans ?_ (by assumption))); done))
      | (go_at_call 12; refine (isPayload_calls _ l _ (IsB.gr (by assumption) (by (repeat (with_reducible first | exact Gr.refl _ | assumption | refine Gr.alloc ?_ _ | refine Gr.drew ?_ | refine Gr.drewN ?_ _ | refine Gr.trans ?_ (by assumption))); done))).mono ?_; rintro e w9 ⟨rfl, rfl⟩))
    go_ret
    exact ⟨rfl, (by (repeat (with_reducible first | exact Gr.refl _ | assumption | refine Gr.alloc ?_ _ | refine Gr.drew ?_ | refine Gr.drewN ?_ _ | refine Gr.trans ?_ (by assumption))); done)⟩
  | true =>
    have X9 := Lib.hid (show ∀ x ∈ os, x.data.length ≤ 2147483647 from (fitB_iff.1 (by simp only [zz3, Bool.and_eq_true] at hc0; exact hc0.2)).2)
    by_cases hc1 : (l.length : Int) ≤ 2147483647
    case neg =>
      have hd1 := decide_eq_false hc1
      go_enter Try.func7, Try.ntmps7
      go_wp2_with (first
      | (go_at_call 28; refine (zz3_calls _ _ _ _ _ _ _ _ _ _ _ _ _ _ _ _ _ _ l1 l2 os _ (IsB.gr (by assumption) (by (repeat (with_reducible first | exact Gr.refl _ | assumption | refine Gr.alloc ?_ _ | refine Gr.drew ?_ | refine Gr.drewN ?_ _ | refine Gr.trans ?_ (by assumption))); done)) (IsB.gr (by assumption) (by (repeat (with_reducible first | exact Gr.refl _ | assumption | refine Gr.alloc ?_ _ | refine Gr.drew ?_ | refine Gr.drewN ?_ _ | refine Gr.trans ?_ (by assumption))); done)) (HO.out.gr (by (repeat (with_reducible first | exact Gr.refl _ | assumption | refine Gr.alloc ?_ _ | refine Gr.drew ?_ | refine Gr.drewN ?_ _ | refine Gr.trans ?_ (by assumption))); done))).mono ?_; rintro e w9 ⟨rfl, hg9⟩; obtain ⟨hs9, hc9⟩ := Gr.boxed (w := w) (cs := [.int .i64 wo, .int .i64 sv, .int .i64 ln, .int .i64 idn, .int .i64 fl, .int .i64 fo, .int .i64 tt, .int .i64 pr, .int .i64 ck, .slice a1 n1 c1, .slice a2 n2 c2, .slice ao no co]) (t := 51) (w' := w9) (by (repeat (with_reducible first | exact Gr.refl _ | assumption | refine Gr.alloc ?_ _ | refine Gr.drew ?_ | refine Gr.drewN ?_ _ | refine Gr.trans ?_ (by assumption))); done))
      | (go_at_call 29; refine (isIPv4_calls _ _ _ _ _ _ _ _ _ _ _ _ _ _ _ _ _ _ l1 l2 os _ (IsB.gr (by assumption) (by (repeat (with_reducible first | exact Gr.refl _ | assumption | refine Gr.alloc ?_ _ | refine Gr.drew ?_ | refine Gr.drewN ?_ _ | refine Gr.trans ?_ (by assumption))); done)) (IsB.gr (by assumption) (by (repeat (with_reducible first | exact Gr.refl _ | assumption | refine Gr.alloc ?_ _ | refine Gr.drew ?_ | refine Gr.drewN ?_ _ | refine Gr.trans ?_ (by assumption))); done)) (HO.out.gr (by (repeat (with_reducible first | exact Gr.refl _ | assumption | refine Gr.alloc ?_ _ | refine Gr.drew ?_ | refine Gr.drewN ?_ _ | refine Gr.trans ?_ (by assumption))); done)) X9.out).mono ?_; rintro e w9 ⟨rfl, hg9⟩; obtain ⟨hs9, hc9⟩ := Gr.boxed (w := w) (cs := [.int .i64 wo, .int .i64 sv, .int .i64 ln, .int .i64 idn, .int .i64 fl, .int .i64 fo, .int .i64 tt, .int .i64 pr, .int .i64 ck, .slice a1 n1 c1, .slice a2 n2 c2, .slice ao no co]) (t := 51) (w' := w9) (by (repeat (with_reducible first | exact Gr.refl _ | assumption | refine Gr.alloc ?_ _ | refine Gr.drew ?_ | refine Gr.drewN ?_ _ | refine Gr.trans ?_ (by assumption))); done))
      | (go_at_call 12; refine (isPayload_calls _ l _ (IsB.gr (by assumption) (by (repeat (with_reducible first | exact Gr.refl _ | assumption | refine Gr.alloc ?_ _ | refine Gr.drew ?_ | refine Gr.drewN ?_ _ | refine Gr.trans ?_ (by assumption))); done))).mono ?_; rintro e w9 ⟨rfl, rfl⟩))
      go_ret
      exact ⟨rfl, (by (repeat (with_reducible first | exact Gr.refl _ | assumption | refine Gr.alloc ?_ _ | refine Gr.drew ?_ | refine Gr.drewN ?_ _ | refine Gr.trans ?_ (by assumption))); done)⟩
    case pos =>
      cases hc2 : (isIPv4 sv idn fl fo tt pr l1 l2 os : Bool) with
      | false =>
        go_enter Try.func7, Try.ntmps7
        go_wp2_with (first
      | (go_at_call 28; refine (zz3_calls _ _ _ _ _ _ _ _ _ _ _ _ _ _ _ _ _ _ l1 l2 os _ (IsB.gr (by assumption) (by (repeat (with_reducible first | exact Gr.refl _ | assumption | refine Gr.alloc ?_ _ | refine Gr.drew ?_ | refine Gr.drewN ?_ _ | refine Gr.trans ?_ (by assumption))); done)) (IsB.gr (by assumption) (by (repeat (with_reducible first | exact Gr.refl _ | assumption | refine Gr.alloc ?_ _ | refine Gr.drew ?_ | refine Gr.drewN ?_ _ | refine Gr.trans ?_ (by assumption))); done)) (HO.out.gr (by (repeat (with_reducible first | exact Gr.refl _ | assumption | refine Gr.alloc ?_ _ | refine Gr.drew ?_ | refine Gr.drewN ?_ _ | refine Gr.trans ?_ (by assumption))); done))).mono ?_; rintro e w9 ⟨rfl, hg9⟩; obtain ⟨hs9, hc9⟩ := Gr.boxed (w := w) (cs := [.int .i64 wo, .int .i64 sv, .int .i64 ln, .int .i64 idn, .int .i64 fl, .int .i64 fo, .int .i64 tt, .int .i64 pr, .int .i64 ck, .slice a1 n1 c1, .slice a2 n2 c2, .slice ao no co]) (t := 51) (w' := w9) (by (repeat (with_reducible first | exact Gr.refl _ | assumption | refine Gr.alloc ?_ _ | refine Gr.drew ?_ | refine Gr.drewN ?_ _ | refine Gr.trans ?_ (by assumption))); done))
      | (go_at_call 29; refine (isIPv4_calls _ _ _ _ _ _ _ _ _ _ _ _ _ _ _ _ _ _ l1 l2 os _ (IsB.gr (by assumption) (by (repeat (with_reducible first | exact Gr.refl _ | assumption | refine Gr.alloc ?_ _ | refine Gr.drew ?_ | refine Gr.drewN ?_ _ | refine Gr.trans ?_ (by assumption))); done)) (IsB.gr (by assumption) (by (repeat (with_reducible first | exact Gr.refl _ | assumption | refine Gr.alloc ?_ _ | refine Gr.drew ?_ | refine Gr.drewN ?_ _ | refine Gr.trans ?_ (by assumption))); done)) (HO.out.gr (by (repeat (with_reducible first | exact Gr.refl _ | assumption | refine Gr.alloc ?_ _ | refine Gr.drew ?_ | refine Gr.drewN ?_ _ | refine Gr.trans ?_ (by assumption))); done)) X9.out).mono ?_; rintro e w9 ⟨rfl, hg9⟩; obtain ⟨hs9, hc9⟩ := Gr.boxed (w := w) (cs := [.int .i64 wo, .int .i64 sv, .int .i64 ln, .int .i64 idn, .int .i64 fl, .int .i64 fo, .int .i64 tt, .int .i64 pr, .int .i64 ck, .slice a1 n1 c1, .slice a2 n2 c2, .slice ao no co]) (t := 51) (w' := w9) (by (repeat (with_reducible first | exact Gr.refl _ | assumption | refine Gr.alloc ?_ _ | refine Gr.drew ?_ | refine Gr.drewN ?_ _ | refine Gr.trans ?_ (by assumption))); done))
      | (go_at_call 12; refine (isPayload_calls _ l _ (IsB.gr (by assumption) (by (repeat (with_reducible first | exact Gr.refl _ | assumption | refine Gr.alloc ?_ _ | refine Gr.drew ?_ | refine Gr.drewN ?_ _ | refine Gr.trans ?_ (by assumption))); done))).mono ?_; rintro e w9 ⟨rfl, rfl⟩))
        go_ret
        exact ⟨rfl, (by (repeat (with_reducible first | exact Gr.refl _ | assumption | refine Gr.alloc ?_ _ | refine Gr.drew ?_ | refine Gr.drewN ?_ _ | refine Gr.trans ?_ (by assumption))); done)⟩
      | true =>
        cases hc3 : (isPay l : Bool) with
        | false =>
          go_enter Try.func7, Try.ntmps7
          go_wp2_with (first
      | (go_at_call 28; refine (zz3_calls _ _ _ _ _ _ _ _ _ _ _ _ _ _ _ _ _ _ l1 l2 os _ (IsB.gr (by assumption) (by (repeat (with_reducible first | exact Gr.refl _ | assumption | refine Gr.alloc ?_ _ | refine Gr.drew ?_ | refine Gr.drewN ?_ _ | refine Gr.trans ?_ (by assumption))); done)) (IsB.gr (by assumption) (by (repeat (with_reducible first | exact Gr.refl _ | assumption | refine Gr.alloc ?_ _ | refine Gr.drew ?_ | refine Gr.drewN ?_ _ | refine Gr.trans ?_ (by assumption))); done)) (HO.out.gr (by (repeat (with_reducible first | exact Gr.refl _ | assumption | refine Gr.alloc ?_ _ | refine Gr.drew ?_ | refine Gr.drewN ?_ _ | refine Gr.trans ?_ (by assumption))); done))).mono ?_; rintro e w9 ⟨rfl, hg9⟩; obtain ⟨hs9, hc9⟩ := Gr.boxed (w := w) (cs := [.int .i64 wo, .int .i64 sv, .int .i64 ln, .int .i64 idn, .int .i64 fl, .int .i64 fo, .int .i64 tt, .int .i64 pr, .int .i64 ck, .slice a1 n1 c1, .slice a2 n2 c2, .slice ao no co]) (t := 51) (w' := w9) (by (repeat (with_reducible first | exact Gr.refl _ | assumption | refine Gr.alloc ?_ _ | refine Gr.drew ?_ | refine Gr.drewN ?_ _ | refine Gr.trans ?_ (by assumption))); done))
      | (go_at_call 29; refine (isIPv4_calls _ _ _ _ _ _ _ _ _ _ _ _ _ _ _ _ _ _ l1 l2 os _ (IsB.gr (by assumption) (by (repeat (with_reducible first | exact Gr.refl _ | assumption | refine Gr.alloc ?_ _ | refine Gr.drew ?_ | refine Gr.drewN ?_ _ | refine Gr.trans ?_ (by assumption))); done)) (IsB.gr (by assumption) (by (repeat (with_reducible first | exact Gr.refl _ | assumption | refine Gr.alloc ?_ _ | refine Gr.drew ?_ | refine Gr.drewN ?_ _ | refine Gr.trans ?_ (by assumption))); done)) (HO.out.gr (by (repeat (with_reducible first | exact Gr.refl _ | assumption | refine Gr.alloc ?_ _ | refine Gr.drew ?_ | refine Gr.drewN ?_ _ | refine Gr.trans ?_ (by assumption))); done)) X9.out).mono ?_; rintro e w9 ⟨rfl, hg9⟩; obtain ⟨hs9, hc9⟩ := Gr.boxed (w := w) (cs := [.int .i64 wo, .int .i64 sv, .int .i64 ln, .int .i64 idn, .int .i64 fl, .int .i64 fo, .int .i64 tt, .int .i64 pr, .int .i64 ck, .slice a1 n1 c1, .slice a2 n2 c2, .slice ao no co]) (t := 51) (w' := w9) (by (repeat (with_reducible first | exact Gr.refl _ | assumption | refine Gr.alloc ?_ _ | refine Gr.drew ?_ | refine Gr.drewN ?_ _ | refine Gr.trans ?_ (by assumption))); done))
      | (go_at_call 12; refine (isPayload_calls _ l _ (IsB.gr (by assumption) (by (repeat (with_reducible first | exact Gr.refl _ | assumption | refine Gr.alloc ?_ _ | refine Gr.drew ?_ | refine Gr.drewN ?_ _ | refine Gr.trans ?_ (by assumption))); done))).mono ?_; rintro e w9 ⟨rfl, rfl⟩))
          go_ret
          exact ⟨rfl, (by (repeat (with_reducible first | exact Gr.refl _ | assumption | refine Gr.alloc ?_ _ | refine Gr.drew ?_ | refine Gr.drewN ?_ _ | refine Gr.trans ?_ (by assumption))); done)⟩
        | true =>
          obtain ⟨⟨⟨⟨⟨⟨⟨⟨z1, z2⟩, u1⟩, u2⟩, u3⟩, u4⟩, u5⟩, u6⟩, u7⟩ := isIPv4_iff.1 hc2
          have hl2 := isPay_iff.1 hc3
          obtain ⟨hok, hraw⟩ := opts_ok u7
          have hwb := words_bd hraw
          have hob := optsB_len os
          obtain ⟨WO, hWO⟩ : ∃ WO, wordsOf os = WO := ⟨_, rfl⟩
          rw [hWO] at hwb hob
          obtain ⟨LN, hM⟩ : ∃ LN, 4 * WO + (l.length : Int) = LN := ⟨_, rfl⟩
          obtain ⟨S, hS⟩ : ∃ S, ip4Ck sv LN idn fl fo tt pr l1 l2 os = S := ⟨_, rfl⟩
          obtain ⟨BY, hBY⟩ : ∃ BY, BY = ip4B WO sv LN idn fl fo tt pr S l1 l2 os := ⟨_, rfl⟩
          have hln : BY.length = 12 + l1.length + l2.length + (optsB os).length := by rw [hBY, ip4_len]
          have X0 := Lib.hid (show l.length ≤ 1000000 ∧ l1.length ≤ 1000 ∧ l2.length ≤ 1000 ∧ l.length ≤ 2000 by omega)
          have X1 := Lib.hid (show (optsRaw os).length ≤ 1000 by omega)
          have X2 := Lib.hid (show 0 ≤ WO ∧ WO ≤ 15 by omega)
          have XU := Lib.hid (And.intro u1 (And.intro u2 (And.intro u3 (And.intro u4 (And.intro u5 u6)))))
          have XZ := Lib.hid (show l1.length = 4 ∧ l2.length = 4 by omega)
          have XO := Lib.hid (And.intro hok hraw)
          have XL := Lib.hid (show [BY, l].flatten.length ≤ 70368744177664 by simp only [List.flatten_cons, List.flatten_nil, List.append_nil, List.length_append]; omega)
          have HWO := Lib.hid hWO
          have HM := Lib.hid hM
          have HS := Lib.hid hS
          have HBY := Lib.hid hBY
          
          obtain ⟨W, hWn⟩ : ∃ W : Nat, WO = (W : Int) := ⟨WO.toNat, by omega⟩
          subst hWn
          have hbl : BY.length = 4 * W := by omega
          obtain ⟨N, hN⟩ : ∃ N : Nat, N = 4 * W + l.length := ⟨_, rfl⟩
          have hp := ip4_parts (W : Int) sv LN idn fl fo tt pr S l1 l2 os
          have hp0 := ip4_parts (W : Int) sv LN idn fl fo tt pr 0 l1 l2 os
          have hall := ip4_bytes (W : Int) sv LN idn fl fo tt pr 0 l1 l2 os (by omega) u1 u5 u6 h1.bytes h2.bytes HO.out.allB
          have hz : cks BY = 0 := by
            rw [hBY, hp]
            rw [hp0] at hall
            have hck : cks (ip4B (W : Int) sv LN idn fl fo tt pr 0 l1 l2 os) = S := by rw [← hS]; unfold ip4Ck; rw [hWO]
            rw [hp0] at hck
            refine cks_zero _ (l1 ++ (l2 ++ optsB os)) (by simp) hall ?_ S hck
            rw [tot_app _ _ (by simp)]
            have hq : AllB ([0, 0] ++ (l1 ++ (l2 ++ optsB os))) := fun x hx => hall x (List.mem_append_right _ hx)
            have h3 := (tot_bd _ hq).1
            simp only [tot]
            omega
          have HZ := Lib.hid hz
          have HLT := Lib.hid (show (BY ++ l).length = N ∧ 0 < (BY ++ l).length ∧ 4 * W ≤ (BY ++ l).length ∧ bt (BY ++ l) 0 = 64 + (W : Int) ∧ (BY ++ l).take (4 * W) = BY by
            refine ⟨by rw [List.length_append]; omega, by rw [List.length_append]; omega, by rw [List.length_append]; omega, ?_, ?_⟩
            · rw [hBY, hp]; rfl
            · rw [← hbl, List.take_left])
          have XB := Lib.hid (show BY.length ≤ 1000000 by omega)
          have v1 : bits .and .u8 (64 + (W : Int)) 15 = (W : Int) := by rw [bmask .u8 4 (by omega) (by rw [max_u8]; omega) (by decide) (by decide)]; omega
          have v2 : IntKind.i64.wrap (W : Int) = (W : Int) := w64 (by omega) (by omega)
          have v3 : IntKind.i64.wrap ((W : Int) * 4) = (W : Int) * 4 := w64 (by omega) (by omega)
          have v4 : decide ((N : Int) < 20) = false := by simp; omega
          have v5 : decide ((N : Int) < (W : Int) * 4) = false := by simp; omega
          clear hS hWO hln hBY hM hl2 hok hraw hwb hob u1 u2 u3 u4 u5 u6 u7 z1 z2 hbl hN hp hp0 hall hz
          go_enter Try.func7, Try.ntmps7
          go_wp2_with (first
      | (go_at_call 28; refine (zz3_calls _ _ _ _ _ _ _ _ _ _ _ _ _ _ _ _ _ _ l1 l2 os _ (IsB.gr (by assumption) (by (repeat (with_reducible first | exact Gr.refl _ | assumption | refine Gr.alloc ?_ _ | refine Gr.drew ?_ | refine Gr.drewN ?_ _ | refine Gr.trans ?_ (by assumption))); done)) (IsB.gr (by assumption) (by (repeat (with_reducible first | exact Gr.refl _ | assumption | refine Gr.alloc ?_ _ | refine Gr.drew ?_ | refine Gr.drewN ?_ _ | refine Gr.trans ?_ (by assumption))); done)) (HO.out.gr (by (repeat (with_reducible first | exact Gr.refl _ | assumption | refine Gr.alloc ?_ _ | refine Gr.drew ?_ | refine Gr.drewN ?_ _ | refine Gr.trans ?_ (by assumption))); done))).mono ?_; rintro e w9 ⟨rfl, hg9⟩; obtain ⟨hs9, hc9⟩ := Gr.boxed (w := w) (cs := [.int .i64 wo, .int .i64 sv, .int .i64 ln, .int .i64 idn, .int .i64 fl, .int .i64 fo, .int .i64 tt, .int .i64 pr, .int .i64 ck, .slice a1 n1 c1, .slice a2 n2 c2, .slice ao no co]) (t := 51) (w' := w9) (by (repeat (with_reducible first | exact Gr.refl _ | assumption | refine Gr.alloc ?_ _ | refine Gr.drew ?_ | refine Gr.drewN ?_ _ | refine Gr.trans ?_ (by assumption))); done))
      | (go_at_call 29; refine (isIPv4_calls _ _ _ _ _ _ _ _ _ _ _ _ _ _ _ _ _ _ l1 l2 os _ (IsB.gr (by assumption) (by (repeat (with_reducible first | exact Gr.refl _ | assumption | refine Gr.alloc ?_ _ | refine Gr.drew ?_ | refine Gr.drewN ?_ _ | refine Gr.trans ?_ (by assumption))); done)) (IsB.gr (by assumption) (by (repeat (with_reducible first | exact Gr.refl _ | assumption | refine Gr.alloc ?_ _ | refine Gr.drew ?_ | refine Gr.drewN ?_ _ | refine Gr.trans ?_ (by assumption))); done)) (HO.out.gr (by (repeat (with_reducible first | exact Gr.refl _ | assumption | refine Gr.alloc ?_ _ | refine Gr.drew ?_ | refine Gr.drewN ?_ _ | refine Gr.trans ?_ (by assumption))); done)) X9.out).mono ?_; rintro e w9 ⟨rfl, hg9⟩; obtain ⟨hs9, hc9⟩ := Gr.boxed (w := w) (cs := [.int .i64 wo, .int .i64 sv, .int .i64 ln, .int .i64 idn, .int .i64 fl, .int .i64 fo, .int .i64 tt, .int .i64 pr, .int .i64 ck, .slice a1 n1 c1, .slice a2 n2 c2, .slice ao no co]) (t := 51) (w' := w9) (by (repeat (with_reducible first | exact Gr.refl _ | assumption | refine Gr.alloc ?_ _ | refine Gr.drew ?_ | refine Gr.drewN ?_ _ | refine Gr.trans ?_ (by assumption))); done))
      | (go_at_call 12; refine (isPayload_calls _ l _ (IsB.gr (by assumption) (by (repeat (with_reducible first | exact Gr.refl _ | assumption | refine Gr.alloc ?_ _ | refine Gr.drew ?_ | refine Gr.drewN ?_ _ | refine Gr.trans ?_ (by assumption))); done))).mono ?_; rintro e w9 ⟨rfl, rfl⟩)
      | (go_at_call 30; refine (ip4Written_calls _ _ _ _ _ _ _ _ _ _ _ _ _ _ _ _ _ _ l1 l2 os _ _ _ l _ (IsB.gr (by assumption) (by (repeat (with_reducible first | exact Gr.refl _ | assumption | refine Gr.alloc ?_ _ | refine Gr.drew ?_ | refine Gr.drewN ?_ _ | refine Gr.trans ?_ (by assumption))); done)) (IsB.gr (by assumption) (by (repeat (with_reducible first | exact Gr.refl _ | assumption | refine Gr.alloc ?_ _ | refine Gr.drew ?_ | refine Gr.drewN ?_ _ | refine Gr.trans ?_ (by assumption))); done)) (HO.out.gr (by (repeat (with_reducible first | exact Gr.refl _ | assumption | refine Gr.alloc ?_ _ | refine Gr.drew ?_ | refine Gr.drewN ?_ _ | refine Gr.trans ?_ (by assumption))); done)) (IsB.gr (by assumption) (by (repeat (with_reducible first | exact Gr.refl _ | assumption | refine Gr.alloc ?_ _ | refine Gr.drew ?_ | refine Gr.drewN ?_ _ | refine Gr.trans ?_ (by assumption))); done)) X0.out.2.2.2 XZ.out.1 XZ.out.2 XU.out.1 XU.out.2.1 XU.out.2.2.1 XU.out.2.2.2.1 XU.out.2.2.2.2.1 XU.out.2.2.2.2.2 XO.out.1 XO.out.2).mono ?_; rintro e w9 ⟨_, _, _, rfl, hbW, hg9⟩; rw [HWO.out, HM.out, HS.out, ← HBY.out] at hbW; obtain ⟨hs9, hc9⟩ := Gr.boxed (w := w) (cs := [.int .i64 wo, .int .i64 sv, .int .i64 ln, .int .i64 idn, .int .i64 fl, .int .i64 fo, .int .i64 tt, .int .i64 pr, .int .i64 ck, .slice a1 n1 c1, .slice a2 n2 c2, .slice ao no co]) (t := 51) (w' := w9) (by (repeat (with_reducible first | exact Gr.refl _ | assumption | refine Gr.alloc ?_ _ | refine Gr.drew ?_ | refine Gr.drewN ?_ _ | refine Gr.trans ?_ (by assumption))); done); obtain ⟨i0, hi, hz0, hz1, hz2⟩ := info_parts info_u8; have gW := (fun ty => hbW.len (P := Try.prog) 25 ty 5 Try.underlying25); rw [HLT.out.1] at gW; obtain ⟨bo, oo, ixo, co0, -⟩ := hbW.idx (P := Try.prog) 25 5 i0 Try.underlying25 hi hz1 .i64 0 0 rfl HLT.out.2.1; rw [HLT.out.2.2.2.1] at co0; obtain ⟨ac, nc, cc, hbC, -, sC⟩ := hbW.cutH (P := Try.prog) 25 5 i0 Try.underlying25 hi hz1 ((W : Int) * 4) (4 * W) (by omega) HLT.out.2.2.1; rw [HLT.out.2.2.2.2] at hbC)
      | (go_at_call 33; refine (checksum_calls _ BY _ (by assumption) XB.out).mono ?_; rintro e w9 ⟨rfl, rfl⟩; rw [HZ.out]))
          go_ret
          exact ⟨by simp, (by (repeat (with_reducible first | exact Gr.refl _ | assumption | refine Gr.alloc ?_ _ | refine Gr.drew ?_ | refine Gr.drewN ?_ _ | refine Gr.trans ?_ (by assumption))); done)⟩

end Go.Proofs.Ytdpffedmgmllbaa
