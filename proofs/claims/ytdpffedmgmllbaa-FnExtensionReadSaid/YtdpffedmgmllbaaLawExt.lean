/-
  The law FnExtensionRead.
-/
import Derived.Test.YtdpffedmgmllbaaERead
import Derived.Test.YtdpffedmgmllbaaBase
namespace Go.Proofs.Ytdpffedmgmllbaa
open Go.RowKit

theorem alike_outX (os : List Opt) : Alike (os.map outX) os := by
  refine ⟨by simp, fun k hk => ?_⟩
  have e : (os.map outX).getD k Opt.zero = outX (os.getD k Opt.zero) := by
    rw [List.getD_eq_getElem?_getD, List.getD_eq_getElem?_getD, List.getElem?_map, List.getElem?_eq_getElem hk]
    rfl
  rw [e]
  exact ⟨rfl, rfl⟩
theorem ext_plain (nx : Int) (os : List Opt) (l : List Int) (hx : 0 ≤ nx ∧ nx ≤ 255) (h1 : (typedB os).length ≤ 2046) (h8 : ((typedB os).length + 2) % 8 = 0) :
    bt [extB nx os, l].flatten 0 = nx ∧ bt [extB nx os, l].flatten 1 * 8 + 8 = 2 + ((typedB os).length : Int) ∧ [extB nx os, l].flatten.drop 2 = typedB os ++ l ∧ [extB nx os, l].flatten.length = 2 + (typedB os).length + l.length := by
  have e : [extB nx os, l].flatten = nx % 256 :: ((((typedB os).length : Int) + 2) / 8 - 1) % 256 :: (typedB os ++ l) := by simp [extB]
  rw [e]
  refine ⟨?_, ?_, rfl, ?_⟩
  · show nx % 256 = nx
    omega
  · show ((((typedB os).length : Int) + 2) / 8 - 1) % 256 * 8 + 8 = _
    omega
  · simp only [List.length_cons, List.length_append]; omega
theorem isExt_iff {nx : Int} {os : List Opt} (h : isExt nx os = true) : (0 ≤ nx ∧ nx ≤ 255) ∧ kindsOk 255 os = true ∧ ((typedB os).length + 2) % 8 = 0 ∧ (typedB os).length ≤ 2046 := by
  simp only [isExt, Bool.and_eq_true, upto_iff, beq_iff_eq, decide_eq_true_eq] at h
  obtain ⟨h1, h2, h3, h4⟩ := h
  exact ⟨h1, h2, by omega, by omega⟩

set_option maxRecDepth 100000 in
set_option maxHeartbeats 4000000 in
theorem lawExtensionReadH_calls (nx : Int) (ao : Option Addr) (no co : Nat) (a3 : Option Addr) (n3 c3 : Nat) (os : List Opt) (l : List Int) (w : World) (h0 : IsOpts w (.slice ao no co) os) (h3 : IsB w (.slice a3 n3 c3) l) :
    Calls Try.prog 5 #[.agg #[.int .i64 nx, .slice ao no co], .bool true, .slice a3 n3 c3] w fun e w' => e = .returned (.bool true) ∧ Gr w w' := by
  have g3 := fun ty => h3.len (P := Try.prog) 25 ty 5 Try.underlying25
  have HO := Lib.hid h0
  clear h0
  cases hc0 : (fitB os : Bool) with
  | false =>
    go_enter Try.func5, Try.ntmps5
    go_wp2_with (first
      | (go_at_call 23; refine (zz18_calls _ _ _ _ os _ (HO.out.gr (by (repeat (with_reducible first | exact Gr.refl _ | assumption | refine Gr.alloc ?_ _ | refine Gr.drew ?_ | refine Gr.drewN ?_ _ | refine Gr.trans ?_ (by assumption))); done))).mono ?_; rintro e w9 ⟨rfl, hg9⟩; obtain ⟨hs9, hc9⟩ := Gr.boxed (w := w) (cs := [.int .i64 nx, .slice ao no co]) (t := 43) (w' := w9) (by (repeat (with_reducible first | exact Gr.refl _ | assumption | refine Gr.alloc ?_ _ | refine Gr.drew ?_ | refine Gr.drewN ?_ _ | refine Gr.trans ?_ (by assumption))); done))
      | (go_at_call 24; refine (isExt_calls _ _ _ _ os _ (HO.out.gr (by (repeat (with_reducible first | exact Gr.refl _ | assumption | refine Gr.alloc ?_ _ | refine Gr.drew ?_ | refine Gr.drewN ?_ _ | refine Gr.trans ?_ (by assumption))); done))).mono ?_; rintro e w9 ⟨rfl, hg9⟩; obtain ⟨hs9, hc9⟩ := Gr.boxed (w := w) (cs := [.int .i64 nx, .slice ao no co]) (t := 43) (w' := w9) (by (repeat (with_reducible first | exact Gr.refl _ | assumption | refine Gr.alloc ?_ _ | refine Gr.drew ?_ | refine Gr.drewN ?_ _ | refine Gr.trans ?_ (by assumption))); done))
      | (go_at_call 12; refine (isPayload_calls _ l _ (IsB.gr (by assumption) (by (repeat (with_reducible first | exact Gr.refl _ | assumption | refine Gr.alloc ?_ _ | refine Gr.drew ?_ | refine Gr.drewN ?_ _ | refine Gr.trans ?_ (by assumption))); done))).mono ?_; rintro e w9 ⟨rfl, rfl⟩))
    go_ret
    exact ⟨rfl, (by (repeat (with_reducible first | exact Gr.refl _ | assumption | refine Gr.alloc ?_ _ | refine Gr.drew ?_ | refine Gr.drewN ?_ _ | refine Gr.trans ?_ (by assumption))); done)⟩
  | true =>
    by_cases hc1 : (l.length : Int) ≤ 2147483647
    case neg =>
      have hd1 := decide_eq_false hc1
      go_enter Try.func5, Try.ntmps5
      go_wp2_with (first
      | (go_at_call 23; refine (zz18_calls _ _ _ _ os _ (HO.out.gr (by (repeat (with_reducible first | exact Gr.refl _ | assumption | refine Gr.alloc ?_ _ | refine Gr.drew ?_ | refine Gr.drewN ?_ _ | refine Gr.trans ?_ (by assumption))); done))).mono ?_; rintro e w9 ⟨rfl, hg9⟩; obtain ⟨hs9, hc9⟩ := Gr.boxed (w := w) (cs := [.int .i64 nx, .slice ao no co]) (t := 43) (w' := w9) (by (repeat (with_reducible first | exact Gr.refl _ | assumption | refine Gr.alloc ?_ _ | refine Gr.drew ?_ | refine Gr.drewN ?_ _ | refine Gr.trans ?_ (by assumption))); done))
      | (go_at_call 24; refine (isExt_calls _ _ _ _ os _ (HO.out.gr (by (repeat (with_reducible first | exact Gr.refl _ | assumption | refine Gr.alloc ?_ _ | refine Gr.drew ?_ | refine Gr.drewN ?_ _ | refine Gr.trans ?_ (by assumption))); done))).mono ?_; rintro e w9 ⟨rfl, hg9⟩; obtain ⟨hs9, hc9⟩ := Gr.boxed (w := w) (cs := [.int .i64 nx, .slice ao no co]) (t := 43) (w' := w9) (by (repeat (with_reducible first | exact Gr.refl _ | assumption | refine Gr.alloc ?_ _ | refine Gr.drew ?_ | refine Gr.drewN ?_ _ | refine Gr.trans ?_ (by assumption))); done))
      | (go_at_call 12; refine (isPayload_calls _ l _ (IsB.gr (by assumption) (by (repeat (with_reducible first | exact Gr.refl _ | assumption | refine Gr.alloc ?_ _ | refine Gr.drew ?_ | refine Gr.drewN ?_ _ | refine Gr.trans ?_ (by assumption))); done))).mono ?_; rintro e w9 ⟨rfl, rfl⟩))
      go_ret
      exact ⟨rfl, (by (repeat (with_reducible first | exact Gr.refl _ | assumption | refine Gr.alloc ?_ _ | refine Gr.drew ?_ | refine Gr.drewN ?_ _ | refine Gr.trans ?_ (by assumption))); done)⟩
    case pos =>
      cases hc2 : (isExt nx os : Bool) with
      | false =>
        go_enter Try.func5, Try.ntmps5
        go_wp2_with (first
      | (go_at_call 23; refine (zz18_calls _ _ _ _ os _ (HO.out.gr (by (repeat (with_reducible first | exact Gr.refl _ | assumption | refine Gr.alloc ?_ _ | refine Gr.drew ?_ | refine Gr.drewN ?_ _ | refine Gr.trans ?_ (by assumption))); done))).mono ?_; rintro e w9 ⟨rfl, hg9⟩; obtain ⟨hs9, hc9⟩ := Gr.boxed (w := w) (cs := [.int .i64 nx, .slice ao no co]) (t := 43) (w' := w9) (by (repeat (with_reducible first | exact Gr.refl _ | assumption | refine Gr.alloc ?_ _ | refine Gr.drew ?_ | refine Gr.drewN ?_ _ | refine Gr.trans ?_ (by assumption))); done))
      | (go_at_call 24; refine (isExt_calls _ _ _ _ os _ (HO.out.gr (by (repeat (with_reducible first | exact Gr.refl _ | assumption | refine Gr.alloc ?_ _ | refine Gr.drew ?_ | refine Gr.drewN ?_ _ | refine Gr.trans ?_ (by assumption))); done))).mono ?_; rintro e w9 ⟨rfl, hg9⟩; obtain ⟨hs9, hc9⟩ := Gr.boxed (w := w) (cs := [.int .i64 nx, .slice ao no co]) (t := 43) (w' := w9) (by (repeat (with_reducible first | exact Gr.refl _ | assumption | refine Gr.alloc ?_ _ | refine Gr.drew ?_ | refine Gr.drewN ?_ _ | refine Gr.trans ?_ (by assumption))); done))
      | (go_at_call 12; refine (isPayload_calls _ l _ (IsB.gr (by assumption) (by (repeat (with_reducible first | exact Gr.refl _ | assumption | refine Gr.alloc ?_ _ | refine Gr.drew ?_ | refine Gr.drewN ?_ _ | refine Gr.trans ?_ (by assumption))); done))).mono ?_; rintro e w9 ⟨rfl, rfl⟩))
        go_ret
        exact ⟨rfl, (by (repeat (with_reducible first | exact Gr.refl _ | assumption | refine Gr.alloc ?_ _ | refine Gr.drew ?_ | refine Gr.drewN ?_ _ | refine Gr.trans ?_ (by assumption))); done)⟩
      | true =>
        cases hc3 : (isPay l : Bool) with
        | false =>
          go_enter Try.func5, Try.ntmps5
          go_wp2_with (first
      | (go_at_call 23; refine (zz18_calls _ _ _ _ os _ (HO.out.gr (by (repeat (with_reducible first | exact Gr.refl _ | assumption | refine Gr.alloc ?_ _ | refine Gr.drew ?_ | refine Gr.drewN ?_ _ | refine Gr.trans ?_ (by assumption))); done))).mono ?_; rintro e w9 ⟨rfl, hg9⟩; obtain ⟨hs9, hc9⟩ := Gr.boxed (w := w) (cs := [.int .i64 nx, .slice ao no co]) (t := 43) (w' := w9) (by (repeat (with_reducible first | exact Gr.refl _ | assumption | refine Gr.alloc ?_ _ | refine Gr.drew ?_ | refine Gr.drewN ?_ _ | refine Gr.trans ?_ (by assumption))); done))
      | (go_at_call 24; refine (isExt_calls _ _ _ _ os _ (HO.out.gr (by (repeat (with_reducible first | exact Gr.refl _ | assumption | refine Gr.alloc ?_ _ | refine Gr.drew ?_ | refine Gr.drewN ?_ _ | refine Gr.trans ?_ (by assumption))); done))).mono ?_; rintro e w9 ⟨rfl, hg9⟩; obtain ⟨hs9, hc9⟩ := Gr.boxed (w := w) (cs := [.int .i64 nx, .slice ao no co]) (t := 43) (w' := w9) (by (repeat (with_reducible first | exact Gr.refl _ | assumption | refine Gr.alloc ?_ _ | refine Gr.drew ?_ | refine Gr.drewN ?_ _ | refine Gr.trans ?_ (by assumption))); done))
      | (go_at_call 12; refine (isPayload_calls _ l _ (IsB.gr (by assumption) (by (repeat (with_reducible first | exact Gr.refl _ | assumption | refine Gr.alloc ?_ _ | refine Gr.drew ?_ | refine Gr.drewN ?_ _ | refine Gr.trans ?_ (by assumption))); done))).mono ?_; rintro e w9 ⟨rfl, rfl⟩))
          go_ret
          exact ⟨rfl, (by (repeat (with_reducible first | exact Gr.refl _ | assumption | refine Gr.alloc ?_ _ | refine Gr.drew ?_ | refine Gr.drewN ?_ _ | refine Gr.trans ?_ (by assumption))); done)⟩
        | true =>
          cases hc4 : (((l.length : Int) == 0) : Bool) with
          | true =>
            go_enter Try.func5, Try.ntmps5
            go_wp2_with (first
      | (go_at_call 23; refine (zz18_calls _ _ _ _ os _ (HO.out.gr (by (repeat (with_reducible first | exact Gr.refl _ | assumption | refine Gr.alloc ?_ _ | refine Gr.drew ?_ | refine Gr.drewN ?_ _ | refine Gr.trans ?_ (by assumption))); done))).mono ?_; rintro e w9 ⟨rfl, hg9⟩; obtain ⟨hs9, hc9⟩ := Gr.boxed (w := w) (cs := [.int .i64 nx, .slice ao no co]) (t := 43) (w' := w9) (by (repeat (with_reducible first | exact Gr.refl _ | assumption | refine Gr.alloc ?_ _ | refine Gr.drew ?_ | refine Gr.drewN ?_ _ | refine Gr.trans ?_ (by assumption))); done))
      | (go_at_call 24; refine (isExt_calls _ _ _ _ os _ (HO.out.gr (by (repeat (with_reducible first | exact Gr.refl _ | assumption | refine Gr.alloc ?_ _ | refine Gr.drew ?_ | refine Gr.drewN ?_ _ | refine Gr.trans ?_ (by assumption))); done))).mono ?_; rintro e w9 ⟨rfl, hg9⟩; obtain ⟨hs9, hc9⟩ := Gr.boxed (w := w) (cs := [.int .i64 nx, .slice ao no co]) (t := 43) (w' := w9) (by (repeat (with_reducible first | exact Gr.refl _ | assumption | refine Gr.alloc ?_ _ | refine Gr.drew ?_ | refine Gr.drewN ?_ _ | refine Gr.trans ?_ (by assumption))); done))
      | (go_at_call 12; refine (isPayload_calls _ l _ (IsB.gr (by assumption) (by (repeat (with_reducible first | exact Gr.refl _ | assumption | refine Gr.alloc ?_ _ | refine Gr.drew ?_ | refine Gr.drewN ?_ _ | refine Gr.trans ?_ (by assumption))); done))).mono ?_; rintro e w9 ⟨rfl, rfl⟩))
            go_ret
            exact ⟨rfl, (by (repeat (with_reducible first | exact Gr.refl _ | assumption | refine Gr.alloc ?_ _ | refine Gr.drew ?_ | refine Gr.drewN ?_ _ | refine Gr.trans ?_ (by assumption))); done)⟩
          | false =>
            obtain ⟨u1, u2, u3, u4⟩ := isExt_iff hc2
            obtain ⟨hn, hok⟩ := kinds_ok u2
            have hl2 := isPay_iff.1 hc3
            have hpos : l ≠ [] := by rintro rfl; simp at hc4
            have hpl := ext_plain nx os l u1 u4 u3
            obtain ⟨BY, hBY⟩ : ∃ BY, BY = extB nx os := ⟨_, rfl⟩
            rw [← hBY] at hpl
            obtain ⟨d1, d2, d3, d4⟩ := hpl
            have XA := Lib.hid (And.intro d1 (And.intro d2 d3))
            have XL := Lib.hid (show [BY, l].flatten.length ≤ 70368744177664 ∧ [BY, l].flatten.length ≤ 1000000 ∧ 2 ≤ [BY, l].flatten.length by omega)
            have XO := Lib.hid (And.intro hok (And.intro hn hpos))
            have XR := Lib.hid (And.intro u1 (And.intro u4 u3))
            have HBY := Lib.hid hBY
            clear u1 u2 u3 u4 hn hok hl2 hpos d1 d2 d3 d4 hBY
            go_enter Try.func5, Try.ntmps5
            go_wp2_with (first
      | (go_at_call 23; refine (zz18_calls _ _ _ _ os _ (HO.out.gr (by (repeat (with_reducible first | exact Gr.refl _ | assumption | refine Gr.alloc ?_ _ | refine Gr.drew ?_ | refine Gr.drewN ?_ _ | refine Gr.trans ?_ (by assumption))); done))).mono ?_; rintro e w9 ⟨rfl, hg9⟩; obtain ⟨hs9, hc9⟩ := Gr.boxed (w := w) (cs := [.int .i64 nx, .slice ao no co]) (t := 43) (w' := w9) (by (repeat (with_reducible first | exact Gr.refl _ | assumption | refine Gr.alloc ?_ _ | refine Gr.drew ?_ | refine Gr.drewN ?_ _ | refine Gr.trans ?_ (by assumption))); done))
      | (go_at_call 24; refine (isExt_calls _ _ _ _ os _ (HO.out.gr (by (repeat (with_reducible first | exact Gr.refl _ | assumption | refine Gr.alloc ?_ _ | refine Gr.drew ?_ | refine Gr.drewN ?_ _ | refine Gr.trans ?_ (by assumption))); done))).mono ?_; rintro e w9 ⟨rfl, hg9⟩; obtain ⟨hs9, hc9⟩ := Gr.boxed (w := w) (cs := [.int .i64 nx, .slice ao no co]) (t := 43) (w' := w9) (by (repeat (with_reducible first | exact Gr.refl _ | assumption | refine Gr.alloc ?_ _ | refine Gr.drew ?_ | refine Gr.drewN ?_ _ | refine Gr.trans ?_ (by assumption))); done))
      | (go_at_call 12; refine (isPayload_calls _ l _ (IsB.gr (by assumption) (by (repeat (with_reducible first | exact Gr.refl _ | assumption | refine Gr.alloc ?_ _ | refine Gr.drew ?_ | refine Gr.drewN ?_ _ | refine Gr.trans ?_ (by assumption))); done))).mono ?_; rintro e w9 ⟨rfl, rfl⟩)
      | (go_at_call 26; refine (extB_calls _ _ _ _ os _ (HO.out.gr (by (repeat (with_reducible first | exact Gr.refl _ | assumption | refine Gr.alloc ?_ _ | refine Gr.drew ?_ | refine Gr.drewN ?_ _ | refine Gr.trans ?_ (by assumption))); done)) XR.out.1 XR.out.2.1 XR.out.2.2).mono ?_; rintro e w9 ⟨_, _, _, rfl, ho9, hg9⟩; have hb9 := ho9.isB; rw [← HBY.out] at hb9; obtain ⟨hs9, hc9⟩ := Gr.boxed (w := w) (cs := [.int .i64 nx, .slice ao no co]) (t := 43) (w' := w9) (by (repeat (with_reducible first | exact Gr.refl _ | assumption | refine Gr.alloc ?_ _ | refine Gr.drew ?_ | refine Gr.drewN ?_ _ | refine Gr.trans ?_ (by assumption))); done))
      | (go_at_call 15; refine (joined_calls _ [BY, l] _ (isBs_at _ _ [BY, l] _ (Reads.cons (IsB.gr (by assumption) (by (repeat (with_reducible first | exact Gr.refl _ | assumption | refine Gr.alloc ?_ _ | refine Gr.drew ?_ | refine Gr.drewN ?_ _ | refine Gr.trans ?_ (by assumption))); done)) (Reads.cons (IsB.gr (by assumption) (by (repeat (with_reducible first | exact Gr.refl _ | assumption | refine Gr.alloc ?_ _ | refine Gr.drew ?_ | refine Gr.drewN ?_ _ | refine Gr.trans ?_ (by assumption))); done)) (Reads.nil _))) _ rfl _ (by simp)) XL.out.1 (by simp)).mono ?_; rintro e w9 ⟨_, _, _, rfl, ho9, hg9⟩; have hb9 := ho9.isB; obtain ⟨hs9, hc9⟩ := Gr.boxed (w := w) (cs := [.int .i64 nx, .slice ao no co]) (t := 43) (w' := w9) (by (repeat (with_reducible first | exact Gr.refl _ | assumption | refine Gr.alloc ?_ _ | refine Gr.drew ?_ | refine Gr.drewN ?_ _ | refine Gr.trans ?_ (by assumption))); done))
      | (go_at_call 25; refine (extReadH_calls _ [BY, l].flatten l os _ (by assumption) XO.out.1 XO.out.2.1 XL.out.2.1 XA.out.2.1 XA.out.2.2 XO.out.2.2 XL.out.2.2).mono ?_; rintro e w9 ⟨_, _, _, _, _, _, rfl, hbo, hbp, hg9⟩; rw [XA.out.1]; have HBO := Lib.hid hbo; clear hbo; obtain ⟨hs9, hc9⟩ := Gr.boxed (w := w) (cs := [.int .i64 nx, .slice ao no co]) (t := 43) (w' := w9) (by (repeat (with_reducible first | exact Gr.refl _ | assumption | refine Gr.alloc ?_ _ | refine Gr.drew ?_ | refine Gr.drewN ?_ _ | refine Gr.trans ?_ (by assumption))); done))
      | (go_at_call 27; refine (sameKinds_calls _ _ (os.map outX) os _ (HBO.out.gr (by (repeat (with_reducible first | exact Gr.refl _ | assumption | refine Gr.alloc ?_ _ | refine Gr.drew ?_ | refine Gr.drewN ?_ _ | refine Gr.trans ?_ (by assumption))); done)) (HO.out.gr (by (repeat (with_reducible first | exact Gr.refl _ | assumption | refine Gr.alloc ?_ _ | refine Gr.drew ?_ | refine Gr.drewN ?_ _ | refine Gr.trans ?_ (by assumption))); done)) (alike_outX os)).mono ?_; rintro e w9 ⟨rfl, hg9⟩)
      | (go_at_call 18; refine (same_calls _ _ _ _ _ (IsB.gr (by assumption) (by (repeat (with_reducible first | exact Gr.refl _ | assumption | refine Gr.alloc ?_ _ | refine Gr.drew ?_ | refine Gr.drewN ?_ _ | refine Gr.trans ?_ (by assumption))); done)) (IsB.gr (by assumption) (by (repeat (with_reducible first | exact Gr.refl _ | assumption | refine Gr.alloc ?_ _ | refine Gr.drew ?_ | refine Gr.drewN ?_ _ | refine Gr.trans ?_ (by assumption))); done))).mono ?_; rintro e w9 ⟨rfl, rfl⟩))
            go_ret
            exact ⟨by simp, (by (repeat (with_reducible first | exact Gr.refl _ | assumption | refine Gr.alloc ?_ _ | refine Gr.drew ?_ | refine Gr.drewN ?_ _ | refine Gr.trans ?_ (by assumption))); done)⟩

set_option maxRecDepth 100000 in
set_option maxHeartbeats 4000000 in
theorem lawExtensionReadD_calls (nx : Int) (ao : Option Addr) (no co : Nat) (a3 : Option Addr) (n3 c3 : Nat) (os : List Opt) (l : List Int) (w : World) (h0 : IsOpts w (.slice ao no co) os) (h3 : IsB w (.slice a3 n3 c3) l) :
    Calls Try.prog 5 #[.agg #[.int .i64 nx, .slice ao no co], .bool false, .slice a3 n3 c3] w fun e w' => e = .returned (.bool true) ∧ Gr w w' := by
  have g3 := fun ty => h3.len (P := Try.prog) 25 ty 5 Try.underlying25
  have HO := Lib.hid h0
  clear h0
  cases hc0 : (fitB os : Bool) with
  | false =>
    go_enter Try.func5, Try.ntmps5
    go_wp2_with (first
      | (go_at_call 23; refine (zz18_calls _ _ _ _ os _ (HO.out.gr (by (repeat (with_reducible first | exact Gr.refl _ | assumption | refine Gr.alloc ?_ _ | refine Gr.drew ?_ | refine Gr.drewN ?_ _ | refine Gr.trans ?_ (by assumption))); done))).mono ?_; rintro e w9 ⟨rfl, hg9⟩; obtain ⟨hs9, hc9⟩ := Gr.boxed (w := w) (cs := [.int .i64 nx, .slice ao no co]) (t := 43) (w' := w9) (by (repeat (with_reducible first | exact Gr.refl _ | assumption | refine Gr.alloc ?_ _ | refine Gr.drew ?_ | refine Gr.drewN ?_ _ | refine Gr.trans ?_ (by assumption))); done))
      | (go_at_call 24; refine (isExt_calls _ _ _ _ os _ (HO.out.gr (by (repeat (with_reducible first | exact Gr.refl _ | assumption | refine Gr.alloc ?_ _ | refine Gr.drew ?_ | refine Gr.drewN ?_ _ | refine Gr.trans ?_ (by assumption))); done))).mono ?_; rintro e w9 ⟨rfl, hg9⟩; obtain ⟨hs9, hc9⟩ := Gr.boxed (w := w) (cs := [.int .i64 nx, .slice ao no co]) (t := 43) (w' := w9) (by (repeat (with_reducible first | exact Gr.refl _ | assumption | refine Gr.alloc ?_ _ | refine Gr.drew ?_ | refine Gr.drewN ?_ _ | refine Gr.trans ?_ (by assumption))); done))
      | (go_at_call 12; refine (isPayload_calls _ l _ (IsB.gr (by assumption) (by (repeat (with_reducible first | exact Gr.refl _ | assumption | refine Gr.alloc ?_ _ | refine Gr.drew ?_ | refine Gr.drewN ?_ _ | refine Gr.trans ?_ (by assumption))); done))).mono ?_; rintro e w9 ⟨rfl, rfl⟩))
    go_ret
    exact ⟨rfl, (by (repeat (with_reducible first | exact Gr.refl _ | assumption | refine Gr.alloc ?_ _ | refine Gr.drew ?_ | refine Gr.drewN ?_ _ | refine Gr.trans ?_ (by assumption))); done)⟩
  | true =>
    by_cases hc1 : (l.length : Int) ≤ 2147483647
    case neg =>
      have hd1 := decide_eq_false hc1
      go_enter Try.func5, Try.ntmps5
      go_wp2_with (first
      | (go_at_call 23; refine (zz18_calls _ _ _ _ os _ (HO.out.gr (by (repeat (with_reducible first | exact Gr.refl _ | assumption | refine Gr.alloc ?_ _ | refine Gr.drew ?_ | refine Gr.drewN ?_ _ | refine Gr.trans ?_ (by assumption))); done))).mono ?_; rintro e w9 ⟨rfl, hg9⟩; obtain ⟨hs9, hc9⟩ := Gr.boxed (w := w) (cs := [.int .i64 nx, .slice ao no co]) (t := 43) (w' := w9) (by (repeat (with_reducible first | exact Gr.refl _ | assumption | refine Gr.alloc ?_ _ | refine Gr.drew ?_ | refine Gr.drewN ?_ _ | refine Gr.trans ?_ (by assumption))); done))
      | (go_at_call 24; refine (isExt_calls _ _ _ _ os _ (HO.out.gr (by (repeat (with_reducible first | exact Gr.refl _ | assumption | refine Gr.alloc ?_ _ | refine Gr.drew ?_ | refine Gr.drewN ?_ _ | refine Gr.trans ?_ (by assumption))); done))).mono ?_; rintro e w9 ⟨rfl, hg9⟩; obtain ⟨hs9, hc9⟩ := Gr.boxed (w := w) (cs := [.int .i64 nx, .slice ao no co]) (t := 43) (w' := w9) (by (repeat (with_reducible first | exact Gr.refl _ | assumption | refine Gr.alloc ?_ _ | refine Gr.drew ?_ | refine Gr.drewN ?_ _ | refine Gr.trans ?_ (by assumption))); done))
      | (go_at_call 12; refine (isPayload_calls _ l _ (IsB.gr (by assumption) (by (repeat (with_reducible first | exact Gr.refl _ | assumption | refine Gr.alloc ?_ _ | refine Gr.drew ?_ | refine Gr.drewN ?_ _ | refine Gr.trans ?_ (by assumption))); done))).mono ?_; rintro e w9 ⟨rfl, rfl⟩))
      go_ret
      exact ⟨rfl, (by (repeat (with_reducible first | exact Gr.refl _ | assumption | refine Gr.alloc ?_ _ | refine Gr.drew ?_ | refine Gr.drewN ?_ _ | refine Gr.trans ?_ (by assumption))); done)⟩
    case pos =>
      cases hc2 : (isExt nx os : Bool) with
      | false =>
        go_enter Try.func5, Try.ntmps5
        go_wp2_with (first
      | (go_at_call 23; refine (zz18_calls _ _ _ _ os _ (HO.out.gr (by (repeat (with_reducible first | exact Gr.refl _ | assumption | refine Gr.alloc ?_ _ | refine Gr.drew ?_ | refine Gr.drewN ?_ _ | refine Gr.trans ?_ (by assumption))); done))).mono ?_; rintro e w9 ⟨rfl, hg9⟩; obtain ⟨hs9, hc9⟩ := Gr.boxed (w := w) (cs := [.int .i64 nx, .slice ao no co]) (t := 43) (w' := w9) (by (repeat (with_reducible first | exact Gr.refl _ | assumption | refine Gr.alloc ?_ _ | refine Gr.drew ?_ | refine Gr.drewN ?_ _ | refine Gr.trans ?_ (by assumption))); done))
      | (go_at_call 24; refine (isExt_calls _ _ _ _ os _ (HO.out.gr (by (repeat (with_reducible first | exact Gr.refl _ | assumption | refine Gr.alloc ?_ _ | refine Gr.drew ?_ | refine Gr.drewN ?_ _ | refine Gr.trans ?_ (by assumption))); done))).mono ?_; rintro e w9 ⟨rfl, hg9⟩; obtain ⟨hs9, hc9⟩ := Gr.boxed (w := w) (cs := [.int .i64 nx, .slice ao no co]) (t := 43) (w' := w9) (by (repeat (with_reducible first | exact Gr.refl _ | assumption | refine Gr.alloc ?_ _ | refine Gr.drew ?_ | refine Gr.drewN ?_ _ | refine Gr.trans ?_ (by assumption))); done))
      | (go_at_call 12; refine (isPayload_calls _ l _ (IsB.gr (by assumption) (by (repeat (with_reducible first | exact Gr.refl _ | assumption | refine Gr.alloc ?_ _ | refine Gr.drew ?_ | refine Gr.drewN ?_ _ | refine Gr.trans ?_ (by assumption))); done))).mono ?_; rintro e w9 ⟨rfl, rfl⟩))
        go_ret
        exact ⟨rfl, (by (repeat (with_reducible first | exact Gr.refl _ | assumption | refine Gr.alloc ?_ _ | refine Gr.drew ?_ | refine Gr.drewN ?_ _ | refine Gr.trans ?_ (by assumption))); done)⟩
      | true =>
        cases hc3 : (isPay l : Bool) with
        | false =>
          go_enter Try.func5, Try.ntmps5
          go_wp2_with (first
      | (go_at_call 23; refine (zz18_calls _ _ _ _ os _ (HO.out.gr (by (repeat (with_reducible first | exact Gr.refl _ | assumption | refine Gr.alloc ?_ _ | refine Gr.drew ?_ | refine Gr.drewN ?_ _ | refine Gr.trans ?_ (by assumption))); done))).mono ?_; rintro e w9 ⟨rfl, hg9⟩; obtain ⟨hs9, hc9⟩ := Gr.boxed (w := w) (cs := [.int .i64 nx, .slice ao no co]) (t := 43) (w' := w9) (by (repeat (with_reducible first | exact Gr.refl _ | assumption | refine Gr.alloc ?_ _ | refine Gr.drew ?_ | refine Gr.drewN ?_ _ | refine Gr.trans ?_ (by assumption))); done))
      | (go_at_call 24; refine (isExt_calls _ _ _ _ os _ (HO.out.gr (by (repeat (with_reducible first | exact Gr.refl _ | assumption | refine Gr.alloc ?_ _ | refine Gr.drew ?_ | refine Gr.drewN ?_ _ | refine Gr.trans ?_ (by assumption))); done))).mono ?_; rintro e w9 ⟨rfl, hg9⟩; obtain ⟨hs9, hc9⟩ := Gr.boxed (w := w) (cs := [.int .i64 nx, .slice ao no co]) (t := 43) (w' := w9) (by (repeat (with_reducible first | exact Gr.refl _ | assumption | refine Gr.alloc ?_ _ | refine Gr.drew ?_ | refine Gr.drewN ?_ _ | refine Gr.trans ?_ (by assumption))); done))
      | (go_at_call 12; refine (isPayload_calls _ l _ (IsB.gr (by assumption) (by (repeat (with_reducible first | exact Gr.refl _ | assumption | refine Gr.alloc ?_ _ | refine Gr.drew ?_ | refine Gr.drewN ?_ _ | refine Gr.trans ?_ (by assumption))); done))).mono ?_; rintro e w9 ⟨rfl, rfl⟩))
          go_ret
          exact ⟨rfl, (by (repeat (with_reducible first | exact Gr.refl _ | assumption | refine Gr.alloc ?_ _ | refine Gr.drew ?_ | refine Gr.drewN ?_ _ | refine Gr.trans ?_ (by assumption))); done)⟩
        | true =>
          cases hc4 : (((l.length : Int) == 0) : Bool) with
          | true =>
            go_enter Try.func5, Try.ntmps5
            go_wp2_with (first
      | (go_at_call 23; refine (zz18_calls _ _ _ _ os _ (HO.out.gr (by (repeat (with_reducible first | exact Gr.refl _ | assumption | refine Gr.alloc ?_ _ | refine Gr.drew ?_ | refine Gr.drewN ?_ _ | refine Gr.trans ?_ (by assumption))); done))).mono ?_; rintro e w9 ⟨rfl, hg9⟩; obtain ⟨hs9, hc9⟩ := Gr.boxed (w := w) (cs := [.int .i64 nx, .slice ao no co]) (t := 43) (w' := w9) (by (repeat (with_reducible first | exact Gr.refl _ | assumption | refine Gr.alloc ?_ _ | refine Gr.drew ?_ | refine Gr.drewN ?_ _ | refine Gr.trans ?_ (by assumption))); done))
      | (go_at_call 24; refine (isExt_calls _ _ _ _ os _ (HO.out.gr (by (repeat (with_reducible first | exact Gr.refl _ | assumption | refine Gr.alloc ?_ _ | refine Gr.drew ?_ | refine Gr.drewN ?_ _ | refine Gr.trans ?_ (by assumption))); done))).mono ?_; rintro e w9 ⟨rfl, hg9⟩; obtain ⟨hs9, hc9⟩ := Gr.boxed (w := w) (cs := [.int .i64 nx, .slice ao no co]) (t := 43) (w' := w9) (by (repeat (with_reducible first | exact Gr.refl _ | assumption | refine Gr.alloc ?_ _ | refine Gr.drew ?_ | refine Gr.drewN ?_ _ | refine Gr.trans ?_ (by assumption))); done))
      | (go_at_call 12; refine (isPayload_calls _ l _ (IsB.gr (by assumption) (by (repeat (with_reducible first | exact Gr.refl _ | assumption | refine Gr.alloc ?_ _ | refine Gr.drew ?_ | refine Gr.drewN ?_ _ | refine Gr.trans ?_ (by assumption))); done))).mono ?_; rintro e w9 ⟨rfl, rfl⟩))
            go_ret
            exact ⟨rfl, (by (repeat (with_reducible first | exact Gr.refl _ | assumption | refine Gr.alloc ?_ _ | refine Gr.drew ?_ | refine Gr.drewN ?_ _ | refine Gr.trans ?_ (by assumption))); done)⟩
          | false =>
            obtain ⟨u1, u2, u3, u4⟩ := isExt_iff hc2
            obtain ⟨hn, hok⟩ := kinds_ok u2
            have hl2 := isPay_iff.1 hc3
            have hpos : l ≠ [] := by rintro rfl; simp at hc4
            have hpl := ext_plain nx os l u1 u4 u3
            obtain ⟨BY, hBY⟩ : ∃ BY, BY = extB nx os := ⟨_, rfl⟩
            rw [← hBY] at hpl
            obtain ⟨d1, d2, d3, d4⟩ := hpl
            have XA := Lib.hid (And.intro d1 (And.intro d2 d3))
            have XL := Lib.hid (show [BY, l].flatten.length ≤ 70368744177664 ∧ [BY, l].flatten.length ≤ 1000000 ∧ 2 ≤ [BY, l].flatten.length by omega)
            have XO := Lib.hid (And.intro hok (And.intro hn hpos))
            have XR := Lib.hid (And.intro u1 (And.intro u4 u3))
            have HBY := Lib.hid hBY
            clear u1 u2 u3 u4 hn hok hl2 hpos d1 d2 d3 d4 hBY
            go_enter Try.func5, Try.ntmps5
            go_wp2_with (first
      | (go_at_call 23; refine (zz18_calls _ _ _ _ os _ (HO.out.gr (by (repeat (with_reducible first | exact Gr.refl _ | assumption | refine Gr.alloc ?_ _ | refine Gr.drew ?_ | refine Gr.drewN ?_ _ | refine Gr.trans ?_ (by assumption))); done))).mono ?_; rintro e w9 ⟨rfl, hg9⟩; obtain ⟨hs9, hc9⟩ := Gr.boxed (w := w) (cs := [.int .i64 nx, .slice ao no co]) (t := 43) (w' := w9) (by (repeat (with_reducible first | exact Gr.refl _ | assumption | refine Gr.alloc ?_ _ | refine Gr.drew ?_ | refine Gr.drewN ?_ _ | refine Gr.trans ?_ (by assumption))); done))
      | (go_at_call 24; refine (isExt_calls _ _ _ _ os _ (HO.out.gr (by (repeat (with_reducible first | exact Gr.refl _ | assumption | refine Gr.alloc ?_ _ | refine Gr.drew ?_ | refine Gr.drewN ?_ _ | refine Gr.trans ?_ (by assumption))); done))).mono ?_; rintro e w9 ⟨rfl, hg9⟩; obtain ⟨hs9, hc9⟩ := Gr.boxed (w := w) (cs := [.int .i64 nx, .slice ao no co]) (t := 43) (w' := w9) (by (repeat (with_reducible first | exact Gr.refl _ | assumption | refine Gr.alloc ?_ _ | refine Gr.drew ?_ | refine Gr.drewN ?_ _ | refine Gr.trans ?_ (by assumption))); done))
      | (go_at_call 12; refine (isPayload_calls _ l _ (IsB.gr (by assumption) (by (repeat (with_reducible first | exact Gr.refl _ | assumption | refine Gr.alloc ?_ _ | refine Gr.drew ?_ | refine Gr.drewN ?_ _ | refine Gr.trans ?_ (by assumption))); done))).mono ?_; rintro e w9 ⟨rfl, rfl⟩)
      | (go_at_call 26; refine (extB_calls _ _ _ _ os _ (HO.out.gr (by (repeat (with_reducible first | exact Gr.refl _ | assumption | refine Gr.alloc ?_ _ | refine Gr.drew ?_ | refine Gr.drewN ?_ _ | refine Gr.trans ?_ (by assumption))); done)) XR.out.1 XR.out.2.1 XR.out.2.2).mono ?_; rintro e w9 ⟨_, _, _, rfl, ho9, hg9⟩; have hb9 := ho9.isB; rw [← HBY.out] at hb9; obtain ⟨hs9, hc9⟩ := Gr.boxed (w := w) (cs := [.int .i64 nx, .slice ao no co]) (t := 43) (w' := w9) (by (repeat (with_reducible first | exact Gr.refl _ | assumption | refine Gr.alloc ?_ _ | refine Gr.drew ?_ | refine Gr.drewN ?_ _ | refine Gr.trans ?_ (by assumption))); done))
      | (go_at_call 15; refine (joined_calls _ [BY, l] _ (isBs_at _ _ [BY, l] _ (Reads.cons (IsB.gr (by assumption) (by (repeat (with_reducible first | exact Gr.refl _ | assumption | refine Gr.alloc ?_ _ | refine Gr.drew ?_ | refine Gr.drewN ?_ _ | refine Gr.trans ?_ (by assumption))); done)) (Reads.cons (IsB.gr (by assumption) (by (repeat (with_reducible first | exact Gr.refl _ | assumption | refine Gr.alloc ?_ _ | refine Gr.drew ?_ | refine Gr.drewN ?_ _ | refine Gr.trans ?_ (by assumption))); done)) (Reads.nil _))) _ rfl _ (by simp)) XL.out.1 (by simp)).mono ?_; rintro e w9 ⟨_, _, _, rfl, ho9, hg9⟩; have hb9 := ho9.isB; obtain ⟨hs9, hc9⟩ := Gr.boxed (w := w) (cs := [.int .i64 nx, .slice ao no co]) (t := 43) (w' := w9) (by (repeat (with_reducible first | exact Gr.refl _ | assumption | refine Gr.alloc ?_ _ | refine Gr.drew ?_ | refine Gr.drewN ?_ _ | refine Gr.trans ?_ (by assumption))); done))
      | (go_at_call 25; refine (extReadD_calls _ [BY, l].flatten l os _ (by assumption) XO.out.1 XO.out.2.1 XL.out.2.1 XA.out.2.1 XA.out.2.2 XO.out.2.2 XL.out.2.2).mono ?_; rintro e w9 ⟨_, _, _, _, _, _, rfl, hbo, hbp, hg9⟩; rw [XA.out.1]; have HBO := Lib.hid hbo; clear hbo; obtain ⟨hs9, hc9⟩ := Gr.boxed (w := w) (cs := [.int .i64 nx, .slice ao no co]) (t := 43) (w' := w9) (by (repeat (with_reducible first | exact Gr.refl _ | assumption | refine Gr.alloc ?_ _ | refine Gr.drew ?_ | refine Gr.drewN ?_ _ | refine Gr.trans ?_ (by assumption))); done))
      | (go_at_call 27; refine (sameKinds_calls _ _ (os.map outX) os _ (HBO.out.gr (by (repeat (with_reducible first | exact Gr.refl _ | assumption | refine Gr.alloc ?_ _ | refine Gr.drew ?_ | refine Gr.drewN ?_ _ | refine Gr.trans ?_ (by assumption))); done)) (HO.out.gr (by (repeat (with_reducible first | exact Gr.refl _ | assumption | refine Gr.alloc ?_ _ | refine Gr.drew ?_ | refine Gr.drewN ?_ _ | refine Gr.trans ?_ (by assumption))); done)) (alike_outX os)).mono ?_; rintro e w9 ⟨rfl, hg9⟩)
      | (go_at_call 18; refine (same_calls _ _ _ _ _ (IsB.gr (by assumption) (by (repeat (with_reducible first | exact Gr.refl _ | assumption | refine Gr.alloc ?_ _ | refine Gr.drew ?_ | refine Gr.drewN ?_ _ | refine Gr.trans ?_ (by assumption))); done)) (IsB.gr (by assumption) (by (repeat (with_reducible first | exact Gr.refl _ | assumption | refine Gr.alloc ?_ _ | refine Gr.drew ?_ | refine Gr.drewN ?_ _ | refine Gr.trans ?_ (by assumption))); done))).mono ?_; rintro e w9 ⟨rfl, rfl⟩))
            go_ret
            exact ⟨by simp, (by (repeat (with_reducible first | exact Gr.refl _ | assumption | refine Gr.alloc ?_ _ | refine Gr.drew ?_ | refine Gr.drewN ?_ _ | refine Gr.trans ?_ (by assumption))); done)⟩

theorem lawExtensionRead_calls (nx : Int) (hop : Bool) (ao : Option Addr) (no co : Nat) (a3 : Option Addr) (n3 c3 : Nat) (os : List Opt) (l : List Int) (w : World) (h0 : IsOpts w (.slice ao no co) os) (h3 : IsB w (.slice a3 n3 c3) l) :
    Calls Try.prog 5 #[.agg #[.int .i64 nx, .slice ao no co], .bool hop, .slice a3 n3 c3] w fun e w' => e = .returned (.bool true) ∧ Gr w w' := by
  cases hop with
  | true => exact lawExtensionReadH_calls nx ao no co a3 n3 c3 os l w h0 h3
  | false => exact lawExtensionReadD_calls nx ao no co a3 n3 c3 os l w h0 h3
end Go.Proofs.Ytdpffedmgmllbaa
