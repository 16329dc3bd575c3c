/-
  A header behind that of a packet, as the reference has it.
-/
import Derived.Test.YtdpffedmgmllbaaKinds
import Derived.Test.YtdpffedmgmllbaaRecs
import Derived.Test.YtdpffedmgmllbaaLib2
import Derived.Test.YtdpffedmgmllbaaLib3
import Derived.Deep.RegionHeld3
import Derived.Deep.RegionWith
namespace Go.Proofs.Ytdpffedmgmllbaa
open Go.RowKit

set_option maxRecDepth 100000 in
set_option maxHeartbeats 1000000 in
theorem zz18_calls (nx : Int) (ao : Option Addr) (no co : Nat) (os : List Opt) (w : World) (h0 : IsOpts w (.slice ao no co) os) : Calls Try.prog 23 #[.agg #[.int .i64 nx, .slice ao no co]] w fun e w' => e = .returned (.bool (fitB os)) ∧ Gr w w' := by
  have HO := Lib.hid h0
  clear h0
  cases hc : fitB os with
  | false =>
    go_enter Try.func23, Try.ntmps23
    go_wp2_with (go_at_call 38; refine (fits4_calls _ os _ (HO.out.gr (by (repeat (with_reducible first | exact Gr.refl _ | assumption | refine Gr.alloc ?_ _ | refine Gr.drew ?_ | refine Gr.drewN ?_ _ | refine Gr.trans ?_ (by assumption))); done))).mono ?_; rintro e w9 ⟨rfl, hg9⟩; rw [hc])
    go_ret
    exact ⟨rfl, (by (repeat (with_reducible first | exact Gr.refl _ | assumption | refine Gr.alloc ?_ _ | refine Gr.drew ?_ | refine Gr.drewN ?_ _ | refine Gr.trans ?_ (by assumption))); done)⟩
  | true =>
    go_enter Try.func23, Try.ntmps23
    go_wp2_with (go_at_call 38; refine (fits4_calls _ os _ (HO.out.gr (by (repeat (with_reducible first | exact Gr.refl _ | assumption | refine Gr.alloc ?_ _ | refine Gr.drew ?_ | refine Gr.drewN ?_ _ | refine Gr.trans ?_ (by assumption))); done))).mono ?_; rintro e w9 ⟨rfl, hg9⟩; rw [hc])
    go_ret
    exact ⟨rfl, (by (repeat (with_reducible first | exact Gr.refl _ | assumption | refine Gr.alloc ?_ _ | refine Gr.drew ?_ | refine Gr.drewN ?_ _ | refine Gr.trans ?_ (by assumption))); done)⟩

def OkKind (x : Opt) : Prop := (0 ≤ x.kind ∧ x.kind ≤ 255) ∧ x.data.length ≤ 255 ∧ (x.kind = 0 → x.data = [])
theorem kinds_ok {os : List Opt} (h : kindsOk 255 os = true) : os.length ≤ 30 ∧ ∀ x ∈ os, OkKind x := by
  simp only [kindsOk, Bool.and_eq_true, decide_eq_true_eq, List.all_eq_true] at h
  refine ⟨by omega, fun x hx => ?_⟩
  have h1 := h.2 x hx
  simp only [kindOk, Bool.and_eq_true, upto_iff, decide_eq_true_eq, Bool.not_eq_true', Bool.and_eq_false_iff, Bool.not_eq_false', beq_eq_false_iff_ne] at h1
  refine ⟨h1.1, by omega, fun hk => ?_⟩
  rcases h1.2.2 with h2 | h2
  · exact absurd hk h2
  · exact List.eq_nil_of_length_eq_zero (by omega)
theorem typed_bound : ∀ os : List Opt, (∀ x ∈ os, OkKind x) → (typedB os).length ≤ 257 * os.length
  | [], _ => by simp [typedB]
  | x :: r, h => by
    have h1 := typed_bound r (fun y hy => h y (List.mem_cons_of_mem _ hy))
    obtain ⟨-, h2, -⟩ := h x List.mem_cons_self
    have e : typedB (x :: r) = typB x ++ typedB r := by simp [typedB]
    rw [e, List.length_append, List.length_cons]
    have : (typB x).length ≤ 257 := by unfold typB; split <;> simp <;> omega
    omega
/-- one that fills units of eight bytes -/
def isExt (nx : Int) (os : List Opt) : Bool := upto nx 255 && (kindsOk 255 os && (((2 + ((typedB os).length : Int)) % 8 == 0) && decide (2 + ((typedB os).length : Int) ≤ 2048)))

set_option linter.unusedSimpArgs false in
set_option maxRecDepth 100000 in
set_option maxHeartbeats 4000000 in
theorem isExt_calls (nx : Int) (ao : Option Addr) (no co : Nat) (os : List Opt) (w : World) (h0 : IsOpts w (.slice ao no co) os) : Calls Try.prog 24 #[.agg #[.int .i64 nx, .slice ao no co]] w fun e w' => e = .returned (.bool (isExt nx os)) ∧ Gr w w' := by
  have HO := Lib.hid h0
  clear h0
  have hbl := fun (a : Option Addr) (n c : Nat) (w : World) (h : IsB w (.slice a n c) (typedB os)) ty => h.len (P := Try.prog) 25 ty 5 Try.underlying25
  cases hu : upto nx 255 with
  | false =>
    go_enter Try.func24, Try.ntmps24
    go_wp2_with (go_at_call 39; refine (upTo_calls _ _ _).mono ?_; rintro e w9 ⟨rfl, rfl⟩; rw [hu])
    go_ret
    exact ⟨by simp [isExt, hu], (by (repeat (with_reducible first | exact Gr.refl _ | assumption | refine Gr.alloc ?_ _ | refine Gr.drew ?_ | refine Gr.drewN ?_ _ | refine Gr.trans ?_ (by assumption))); done)⟩
  | true =>
    cases hk : kindsOk 255 os with
    | false =>
      go_enter Try.func24, Try.ntmps24
      go_wp2_with (first | (go_at_call 39; refine (upTo_calls _ _ _).mono ?_; rintro e w9 ⟨rfl, rfl⟩; rw [hu]) | (go_at_call 49; refine (areKinds_calls _ _ os _ (HO.out.gr (by (repeat (with_reducible first | exact Gr.refl _ | assumption | refine Gr.alloc ?_ _ | refine Gr.drew ?_ | refine Gr.drewN ?_ _ | refine Gr.trans ?_ (by assumption))); done))).mono ?_; rintro e w9 ⟨rfl, hg9⟩; rw [hk]))
      go_ret
      exact ⟨by simp [isExt, hu, hk], (by (repeat (with_reducible first | exact Gr.refl _ | assumption | refine Gr.alloc ?_ _ | refine Gr.drew ?_ | refine Gr.drewN ?_ _ | refine Gr.trans ?_ (by assumption))); done)⟩
    | true =>
      obtain ⟨hn, hok⟩ := kinds_ok hk
      have hb := typed_bound os hok
      have HTB := Lib.hid (show (typedB os).length ≤ 100000 by omega)
      obtain ⟨L, hL⟩ : ∃ L, L = (typedB os).length := ⟨_, rfl⟩
      rw [← hL] at hbl hb
      have v1 : IntKind.i64.wrap (2 + (L : Int)) = 2 + (L : Int) := w64 (by omega) (by omega)
      have v2 : (2 + (L : Int)).tmod 8 = (2 + (L : Int)) % 8 := Int.tmod_eq_emod_of_nonneg (by omega)
      have HIS := Lib.hid (show isExt nx os = (((2 + (L : Int)) % 8 == 0) && decide (2 + (L : Int) ≤ 2048)) by unfold isExt; rw [hu, hk, ← hL]; rfl)
      clear hn hok hb hL
      cases h8 : ((2 + (L : Int)) % 8 == 0) with
      | false =>
        go_enter Try.func24, Try.ntmps24
        go_wp2_with (first | (go_at_call 39; refine (upTo_calls _ _ _).mono ?_; rintro e w9 ⟨rfl, rfl⟩; rw [hu]) | (go_at_call 49; refine (areKinds_calls _ _ os _ (HO.out.gr (by (repeat (with_reducible first | exact Gr.refl _ | assumption | refine Gr.alloc ?_ _ | refine Gr.drew ?_ | refine Gr.drewN ?_ _ | refine Gr.trans ?_ (by assumption))); done))).mono ?_; rintro e w9 ⟨rfl, hg9⟩; rw [hk]; obtain ⟨hs9, hc9⟩ := Gr.boxed (w := w) (cs := [.int .i64 nx, .slice ao no co]) (t := 43) (w' := w9) (by (repeat (with_reducible first | exact Gr.refl _ | assumption | refine Gr.alloc ?_ _ | refine Gr.drew ?_ | refine Gr.drewN ?_ _ | refine Gr.trans ?_ (by assumption))); done)) | (go_at_call 55; refine (typed_calls _ os _ (HO.out.gr (by (repeat (with_reducible first | exact Gr.refl _ | assumption | refine Gr.alloc ?_ _ | refine Gr.drew ?_ | refine Gr.drewN ?_ _ | refine Gr.trans ?_ (by assumption))); done)) HTB.out).mono ?_; rintro e w8 ⟨ta, tn, tc, rfl, ho8, hg8⟩; have g8 := hbl _ _ _ _ ho8.isB))
        go_ret
        exact ⟨by rw [HIS.out, h8]; rfl, (by (repeat (with_reducible first | exact Gr.refl _ | assumption | refine Gr.alloc ?_ _ | refine Gr.drew ?_ | refine Gr.drewN ?_ _ | refine Gr.trans ?_ (by assumption))); done)⟩
      | true =>
        go_enter Try.func24, Try.ntmps24
        go_wp2_with (first | (go_at_call 39; refine (upTo_calls _ _ _).mono ?_; rintro e w9 ⟨rfl, rfl⟩; rw [hu]) | (go_at_call 49; refine (areKinds_calls _ _ os _ (HO.out.gr (by (repeat (with_reducible first | exact Gr.refl _ | assumption | refine Gr.alloc ?_ _ | refine Gr.drew ?_ | refine Gr.drewN ?_ _ | refine Gr.trans ?_ (by assumption))); done))).mono ?_; rintro e w9 ⟨rfl, hg9⟩; rw [hk]; obtain ⟨hs9, hc9⟩ := Gr.boxed (w := w) (cs := [.int .i64 nx, .slice ao no co]) (t := 43) (w' := w9) (by (repeat (with_reducible first | exact Gr.refl _ | assumption | refine Gr.alloc ?_ _ | refine Gr.drew ?_ | refine Gr.drewN ?_ _ | refine Gr.trans ?_ (by assumption))); done)) | (go_at_call 55; refine (typed_calls _ os _ (HO.out.gr (by (repeat (with_reducible first | exact Gr.refl _ | assumption | refine Gr.alloc ?_ _ | refine Gr.drew ?_ | refine Gr.drewN ?_ _ | refine Gr.trans ?_ (by assumption))); done)) HTB.out).mono ?_; rintro e w8 ⟨ta, tn, tc, rfl, ho8, hg8⟩; have g8 := hbl _ _ _ _ ho8.isB))
        go_ret
        exact ⟨by rw [HIS.out, h8]; rfl, (by (repeat (with_reducible first | exact Gr.refl _ | assumption | refine Gr.alloc ?_ _ | refine Gr.drew ?_ | refine Gr.drewN ?_ _ | refine Gr.trans ?_ (by assumption))); done)⟩

/-- its bytes -/
def extB (nx : Int) (os : List Opt) : List Int := [[nx % 256, ((((typedB os).length : Int) + 2) / 8 - 1) % 256], typedB os].flatten
set_option linter.unusedSimpArgs false in
set_option maxRecDepth 100000 in
set_option maxHeartbeats 4000000 in
theorem extB_calls (nx : Int) (ao : Option Addr) (no co : Nat) (os : List Opt) (w : World) (h0 : IsOpts w (.slice ao no co) os) (hx : 0 ≤ nx ∧ nx ≤ 255) (hl : (typedB os).length ≤ 2046) (h8 : ((typedB os).length + 2) % 8 = 0) : Calls Try.prog 26 #[.agg #[.int .i64 nx, .slice ao no co]] w (RetB w (extB nx os)) := by
  have HO := Lib.hid h0
  clear h0
  have hbl := fun (a : Option Addr) (n c : Nat) (w : World) (h : IsB w (.slice a n c) (typedB os)) ty => h.len (P := Try.prog) 25 ty 5 Try.underlying25
  have HTB := Lib.hid (show (typedB os).length ≤ 100000 by omega)
  obtain ⟨L, hL⟩ : ∃ L, L = (typedB os).length := ⟨_, rfl⟩
  rw [← hL] at hbl
  obtain ⟨q, hq⟩ : ∃ q : Nat, L + 2 = 8 * (q + 1) := ⟨(L + 2) / 8 - 1, by omega⟩
  have v1 : IntKind.i64.wrap ((L : Int) + 2) = (L : Int) + 2 := w64 (by omega) (by omega)
  have v2 : ((L : Int) + 2).tdiv 8 = (q : Int) + 1 := by rw [Int.tdiv_eq_ediv_of_nonneg (by omega)]; omega
  have v3 : IntKind.i64.wrap ((q : Int) + 1) = (q : Int) + 1 := w64 (by omega) (by omega)
  have v4 : IntKind.i64.wrap (q : Int) = (q : Int) := w64 (by omega) (by omega)
  have v5 : IntKind.u8.wrap (q : Int) = (q : Int) := by simp [IntKind.wrap, IntKind.bits, IntKind.signed]; omega
  have v6 : IntKind.u8.wrap nx = nx := by simp [IntKind.wrap, IntKind.bits, IntKind.signed]; omega
  obtain ⟨BY, hBY⟩ : ∃ BY, BY = extB nx os := ⟨_, rfl⟩
  rw [← hBY]
  have HBY := Lib.hid (show BY = [[nx, (q : Int)], typedB os].flatten by
    rw [hBY]; unfold extB; rw [← hL]
    have e1 : nx % 256 = nx := by omega
    have e2 : (((L : Int) + 2) / 8 - 1) % 256 = (q : Int) := by omega
    rw [e1, e2])
  have HQ := Lib.hid (show (0 ≤ nx ∧ nx ≤ 255) ∧ (0 ≤ (q : Int) ∧ (q : Int) ≤ 255) by omega)
  have HL := Lib.hid (show [[nx, (q : Int)], typedB os].flatten.length ≤ 70368744177664 by simp; omega)
  clear hL hq hBY hl h8
  go_enter Try.func26, Try.ntmps26
  go_wp2_with (first
    | (go_at_call 55; refine (typed_calls _ os _ (HO.out.gr (by (repeat (with_reducible first | exact Gr.refl _ | assumption | refine Gr.alloc ?_ _ | refine Gr.drew ?_ | refine Gr.drewN ?_ _ | refine Gr.trans ?_ (by assumption))); done)) HTB.out).mono ?_; rintro e w8 ⟨ta, tn, tc, rfl, ho8, hg8⟩; have hb8 := ho8.isB; have g8 := hbl _ _ _ _ hb8; obtain ⟨hs9, hc9⟩ := Gr.boxed (w := w) (cs := [.int .i64 nx, .slice ao no co]) (t := 43) (w' := w8) (by (repeat (with_reducible first | exact Gr.refl _ | assumption | refine Gr.alloc ?_ _ | refine Gr.drew ?_ | refine Gr.drewN ?_ _ | refine Gr.trans ?_ (by assumption))); done))
    | (go_at_call 15; refine (joined_calls _ [[nx, (q : Int)], typedB os] _ (isBs_at _ _ [[nx, (q : Int)], typedB os] _ (Reads.cons (lit2_gr (w := w8) (Gr.refl _) (by first | rfl | simp) HQ.out.1 HQ.out.2) (Reads.cons (IsB.gr hb8 (by (repeat (with_reducible first | exact Gr.refl _ | assumption | refine Gr.alloc ?_ _ | refine Gr.drew ?_ | refine Gr.drewN ?_ _ | refine Gr.trans ?_ (by assumption))); done)) (Reads.nil _))) _ rfl _ (by first | simp | rfl | trivial)) HL.out (by first | simp | rfl | trivial)).mono ?_; rintro e w7 ⟨_, _, _, rfl, ho7, hg7⟩; rw [← HBY.out] at ho7))
  go_ret
  exact RetB.after (by (repeat (with_reducible first | exact Gr.refl _ | assumption | refine Gr.alloc ?_ _ | refine Gr.drew ?_ | refine Gr.drewN ?_ _ | refine Gr.trans ?_ (by assumption))); done) ho7 hg7
end Go.Proofs.Ytdpffedmgmllbaa
