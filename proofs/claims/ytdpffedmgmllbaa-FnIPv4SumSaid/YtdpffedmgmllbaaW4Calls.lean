/-
  A header of the fourth version, written in front of what it carries.
-/
import Derived.Test.YtdpffedmgmllbaaW4Ser
import Derived.Test.YtdpffedmgmllbaaW4Ctor
namespace Go.Proofs.Ytdpffedmgmllbaa
open Go.RowKit

/-- what a header of the fourth version takes -/
theorem ip4_lenw (wo sv ln idn fl fo tt pr ck : Int) (l1 l2 : List Int) (os : List Opt) : (ip4B wo sv ln idn fl fo tt pr ck l1 l2 os).length = 12 + l1.length + l2.length + (optsB os).length := ip4_len wo sv ln idn fl fo tt pr ck l1 l2 os

set_option linter.unusedSimpArgs false in
set_option maxRecDepth 100000 in
set_option maxHeartbeats 4000000 in
theorem ip4Written_calls (wo sv ln idn fl fo tt pr ck : Int) (a1 : Option Addr) (n1 c1 : Nat) (a2 : Option Addr) (n2 c2 : Nat) (ao : Option Addr) (no co : Nat) (l1 l2 : List Int) (os : List Opt) (a : Option Addr) (n c : Nat) (l : List Int) (w : World) (h1 : IsB w (.slice a1 n1 c1) l1) (h2 : IsB w (.slice a2 n2 c2) l2) (h0 : IsOpts w (.slice ao no co) os) (h : IsB w (.slice a n c) l) (hl : l.length ≤ 2000) (z1 : l1.length = 4) (z2 : l2.length = 4) (u1 : 0 ≤ sv ∧ sv ≤ 255) (u2 : 0 ≤ idn ∧ idn ≤ 65535) (u3 : 0 ≤ fl ∧ fl ≤ 7) (u4 : 0 ≤ fo ∧ fo ≤ 8191) (u5 : 0 ≤ tt ∧ tt ≤ 255) (u6 : 0 ≤ pr ∧ pr ≤ 255) (hok : ∀ x ∈ os, OkOpt x) (hraw : (optsRaw os).length ≤ 40) :
    Calls Try.prog 30 #[.agg #[.int .i64 wo, .int .i64 sv, .int .i64 ln, .int .i64 idn, .int .i64 fl, .int .i64 fo, .int .i64 tt, .int .i64 pr, .int .i64 ck, .slice a1 n1 c1, .slice a2 n2 c2, .slice ao no co], .slice a n c] w fun e w' => ∃ f9 g9 j9, e = .returned (.tuple #[.slice f9 g9 j9, .bool true]) ∧ IsB w' (.slice f9 g9 j9) (ip4B (wordsOf os) sv (4 * wordsOf os + (l.length : Int)) idn fl fo tt pr (ip4Ck sv (4 * wordsOf os + (l.length : Int)) idn fl fo tt pr l1 l2 os) l1 l2 os ++ l) ∧ Gr w w' := by
  have HAB := Lib.hid h0.allB
  have HL : (ip4B (wordsOf os) sv (4 * wordsOf os + (l.length : Int)) idn fl fo tt pr (ip4Ck sv (4 * wordsOf os + (l.length : Int)) idn fl fo tt pr l1 l2 os) l1 l2 os ++ l).length ≤ 1000000 := by
    have hb := optsB_len os
    have hw := words_bd hraw
    rw [List.length_append, ip4_len, z1, z2]; omega
  obtain ⟨BY, hBY⟩ : ∃ BY, BY = ip4B (wordsOf os) sv (4 * wordsOf os + (l.length : Int)) idn fl fo tt pr (ip4Ck sv (4 * wordsOf os + (l.length : Int)) idn fl fo tt pr l1 l2 os) l1 l2 os := ⟨_, rfl⟩
  rw [← hBY] at HL ⊢
  have HBY := Lib.hid hBY
  have HH := Lib.hid h
  have H1 := Lib.hid h1
  have H2 := Lib.hid h2
  have H0 := Lib.hid h0
  have HOK := Lib.hid (And.intro hok hraw)
  have HLL := Lib.hid HL
  clear h h1 h2 h0 hok hraw HL hBY
  go_enter Try.func30, Try.ntmps30
  go_wp2_with (first
      | (go_at_call 58; refine (carried_calls a n c l _ (HH.out.gr (by (repeat (with_reducible first | exact Gr.refl _ | assumption | refine Gr.alloc ?_ _ | refine Gr.drew ?_ | refine Gr.drewN ?_ _ | refine Gr.trans ?_ (by assumption))); done)) hl).mono ?_; rintro e w1 ⟨P, rfl, hg1, hC⟩; have hCl := hC.lt; have HC := Lib.hid hC; clear hC; obtain ⟨hs9, hc9⟩ := Gr.boxed (w := w) (cs := [.int .i64 wo, .int .i64 sv, .int .i64 ln, .int .i64 idn, .int .i64 fl, .int .i64 fo, .int .i64 tt, .int .i64 pr, .int .i64 ck, .slice a1 n1 c1, .slice a2 n2 c2, .slice ao no co]) (t := 51) (w' := w1) (by (repeat (with_reducible first | exact Gr.refl _ | assumption | refine Gr.alloc ?_ _ | refine Gr.drew ?_ | refine Gr.drewN ?_ _ | refine Gr.trans ?_ (by assumption))); done); have Hgw1 := Lib.hid (show Gr w w1 from (by (repeat (with_reducible first | exact Gr.refl _ | assumption | refine Gr.alloc ?_ _ | refine Gr.drew ?_ | refine Gr.drewN ?_ _ | refine Gr.trans ?_ (by assumption))); done)))
      | (go_at_call 59; refine (mkIPv4_calls wo sv ln idn fl fo tt pr ck a1 n1 c1 a2 n2 c2 ao no co l1 l2 os _ (H1.out.gr (by (repeat (with_reducible first | exact Gr.refl _ | assumption | refine Gr.alloc ?_ _ | refine Gr.drew ?_ | refine Gr.drewN ?_ _ | refine Gr.trans ?_ (by assumption))); done)) (H2.out.gr (by (repeat (with_reducible first | exact Gr.refl _ | assumption | refine Gr.alloc ?_ _ | refine Gr.drew ?_ | refine Gr.drewN ?_ _ | refine Gr.trans ?_ (by assumption))); done)) (H0.out.gr (by (repeat (with_reducible first | exact Gr.refl _ | assumption | refine Gr.alloc ?_ _ | refine Gr.drew ?_ | refine Gr.drewN ?_ _ | refine Gr.trans ?_ (by assumption))); done)) z1 z2 u1 u2 u3 u4 u5 u6 HOK.out.1 HOK.out.2).mono ?_; rintro e w5 h5; unfold Mk4Post at h5; obtain ⟨V, sa, sc, da, dc, oa, on, om, rs, rfl, hVge, hV5, hS5, hD5, eS, eD, fS, fD, hg5, hR5, hrs5⟩ := h5; have HV5 := Lib.hid hV5; have HS5 := Lib.hid hS5; have HD5 := Lib.hid hD5; have HR5 := Lib.hid (And.intro hR5 hrs5); clear hV5 hS5 hD5 hR5 hrs5)
      | (go_at_call 61; refine (whole_calls _).mono ?_; rintro e w2 ⟨rfl, hg2⟩; have HC2 := Lib.hid ((HC.out.to (C := w.heap.size) (by simp only [World.size_alloc]; omega)).gr (w' := w2) (by (repeat (with_reducible first | exact Gr.refl _ | assumption | refine Gr.alloc ?_ _ | refine Gr.drew ?_ | refine Gr.drewN ?_ _ | refine Gr.trans ?_ (by assumption))); done)); have hGw : Gr w w2 := (by (repeat (with_reducible first | exact Gr.refl _ | assumption | refine Gr.alloc ?_ _ | refine Gr.drew ?_ | refine Gr.drewN ?_ _ | refine Gr.trans ?_ (by assumption))); done))
      | (go_at_call 60; refine (ip4Ser_calls V P sv idn fl fo tt pr sa sc da dc oa on om l1 l2 rs os w.heap.size l _ (heap_gr hg2 HV5.out) HC2.out (by omega) (Nat.le_trans Hgw1.out.size (Nat.le_of_lt hVge)) hGw.size hl (HS5.out.gr hg2) (HD5.out.gr hg2) z1 z2 (fS P hCl) (fD P hCl) eS eD u1 u2 u3 u4 u5 u6 ((HR5.out.1.gr hg2).to (fun k hk => hk.imp id (fun e => by rw [e]; exact hCl))) HR5.out.2 HOK.out.1 HOK.out.2 HAB.out).mono ?_; rintro e w3 ⟨rfl, hb3, a', n', pp, qq, ly, hP3, hB3⟩; rw [← HBY.out] at hB3; have HP3 := Lib.hid hP3; clear hP3; have hG3 : Gr w w3 := gr_of_below (hGw.below.trans hb3))
      | (go_at_call 51; refine (written_calls P a' n' n' pp qq ly _ _ HP3.out hB3 HLL.out).mono ?_; rintro e w4 ⟨f9, g9, j9, rfl, hb4, hg4⟩; have hG4 : Gr w w4 := hG3.trans hg4))
  exact bodyPost_ret (v := .tuple #[.slice f9 g9 j9, .bool true]) (by simp [results, Try.results30, go_sem]) rfl ⟨_, _, _, rfl, hb4, hG4⟩

end Go.Proofs.Ytdpffedmgmllbaa
