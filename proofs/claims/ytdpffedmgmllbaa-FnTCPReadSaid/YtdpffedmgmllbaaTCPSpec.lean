/-
  The header of a segment as the reference has it.
-/
import Derived.Test.YtdpffedmgmllbaaOptsB
import Derived.Deep.RegionHeld3
import Derived.Deep.RegionWith
namespace Go.Proofs.Ytdpffedmgmllbaa
open Go.RowKit

def isTCP (s d q a fl wi ur : Int) (os : List Opt) : Bool := upto s 65535 && upto d 65535 && upto q 4294967295 && upto a 4294967295 && upto fl 511 && upto wi 65535 && upto ur 65535 && optsOk 0 os

set_option maxRecDepth 100000 in
set_option maxHeartbeats 1000000 in
theorem isTCP_calls (s d q a wo fl wi ck ur : Int) (ao : Option Addr) (no co : Nat) (os : List Opt) (w : World) (h0 : IsOpts w (.slice ao no co) os) (hf0 : ∀ x ∈ os, x.data.length ≤ 2147483647) :
    Calls Try.prog 10 #[.agg #[.int .i64 s, .int .i64 d, .int .i64 q, .int .i64 a, .int .i64 wo, .int .i64 fl, .int .i64 wi, .int .i64 ck, .int .i64 ur, .slice ao no co]] w fun e w' => e = .returned (.bool (isTCP s d q a fl wi ur os)) ∧ Gr w w' := by
  have h := Lib.hid h0
  have hf := Lib.hid hf0
  clear h0 hf0
  cases hc0 : (upto s 65535 : Bool) with
  | false =>
    go_enter Try.func10, Try.ntmps10
    go_wp2_with ((first | (go_at_call 39; refine (upTo_calls _ _ _).mono ?_; rintro e w9 ⟨rfl, rfl⟩) | (go_at_call 40; refine (areOptions_calls _ os _ (h.out.gr (by (repeat (with_reducible first | exact Gr.refl _ | assumption | refine Gr.alloc ?_ _ | refine Gr.drew ?_ | refine Gr.drewN ?_ _ | refine Gr.trans ?_ (by assumption))); done)) hf.out).mono ?_; rintro e w9 ⟨rfl, hg9⟩; obtain ⟨hs9, hc9⟩ := Gr.boxed (w := w) (cs := [.int .i64 s, .int .i64 d, .int .i64 q, .int .i64 a, .int .i64 wo, .int .i64 fl, .int .i64 wi, .int .i64 ck, .int .i64 ur, .slice ao no co]) (t := 24) (w' := w9) (by (repeat (with_reducible first | exact Gr.refl _ | assumption | refine Gr.alloc ?_ _ | refine Gr.drew ?_ | refine Gr.drewN ?_ _ | refine Gr.trans ?_ (by assumption))); done))))
    go_ret
    exact ⟨by simp [isTCP, hc0], (by (repeat (with_reducible first | exact Gr.refl _ | assumption | refine Gr.alloc ?_ _ | refine Gr.drew ?_ | refine Gr.drewN ?_ _ | refine Gr.trans ?_ (by assumption))); done)⟩
  | true =>
    cases hc1 : (upto d 65535 : Bool) with
    | false =>
      go_enter Try.func10, Try.ntmps10
      go_wp2_with ((first | (go_at_call 39; refine (upTo_calls _ _ _).mono ?_; rintro e w9 ⟨rfl, rfl⟩) | (go_at_call 40; refine (areOptions_calls _ os _ (h.out.gr (by (repeat (with_reducible first | exact Gr.refl _ | assumption | refine Gr.alloc ?_ _ | refine Gr.drew ?_ | refine Gr.drewN ?_ _ | refine Gr.trans ?_ (by assumption))); done)) hf.out).mono ?_; rintro e w9 ⟨rfl, hg9⟩; obtain ⟨hs9, hc9⟩ := Gr.boxed (w := w) (cs := [.int .i64 s, .int .i64 d, .int .i64 q, .int .i64 a, .int .i64 wo, .int .i64 fl, .int .i64 wi, .int .i64 ck, .int .i64 ur, .slice ao no co]) (t := 24) (w' := w9) (by (repeat (with_reducible first | exact Gr.refl _ | assumption | refine Gr.alloc ?_ _ | refine Gr.drew ?_ | refine Gr.drewN ?_ _ | refine Gr.trans ?_ (by assumption))); done))))
      go_ret
      exact ⟨by simp [isTCP, hc0, hc1], (by (repeat (with_reducible first | exact Gr.refl _ | assumption | refine Gr.alloc ?_ _ | refine Gr.drew ?_ | refine Gr.drewN ?_ _ | refine Gr.trans ?_ (by assumption))); done)⟩
    | true =>
      cases hc2 : (upto q 4294967295 : Bool) with
      | false =>
        go_enter Try.func10, Try.ntmps10
        go_wp2_with ((first | (go_at_call 39; refine (upTo_calls _ _ _).mono ?_; rintro e w9 ⟨rfl, rfl⟩) | (go_at_call 40; refine (areOptions_calls _ os _ (h.out.gr (by (repeat (with_reducible first | exact Gr.refl _ | assumption | refine Gr.alloc ?_ _ | refine Gr.drew ?_ | refine Gr.drewN ?_ _ | refine Gr.trans ?_ (by assumption))); done)) hf.out).mono ?_; rintro e w9 ⟨rfl, hg9⟩; obtain ⟨hs9, hc9⟩ := Gr.boxed (w := w) (cs := [.int .i64 s, .int .i64 d, .int .i64 q, .int .i64 a, .int .i64 wo, .int .i64 fl, .int .i64 wi, .int .i64 ck, .int .i64 ur, .slice ao no co]) (t := 24) (w' := w9) (by (repeat (with_reducible first | exact Gr.refl _ | assumption | refine Gr.alloc ?_ _ | refine Gr.drew ?_ | refine Gr.drewN ?_ _ | refine Gr.trans ?_ (by assumption))); done))))
        go_ret
        exact ⟨by simp [isTCP, hc0, hc1, hc2], (by (repeat (with_reducible first | exact Gr.refl _ | assumption | refine Gr.alloc ?_ _ | refine Gr.drew ?_ | refine Gr.drewN ?_ _ | refine Gr.trans ?_ (by assumption))); done)⟩
      | true =>
        cases hc3 : (upto a 4294967295 : Bool) with
        | false =>
          go_enter Try.func10, Try.ntmps10
          go_wp2_with ((first | (go_at_call 39; refine (upTo_calls _ _ _).mono ?_; rintro e w9 ⟨rfl, rfl⟩) | (go_at_call 40; refine (areOptions_calls _ os _ (h.out.gr (by (repeat (with_reducible first | exact Gr.refl _ | assumption | refine Gr.alloc ?_ _ | refine Gr.drew ?_ | refine Gr.drewN ?_ _ | refine Gr.trans ?_ (by assumption))); done)) hf.out).mono ?_; rintro e w9 ⟨rfl, hg9⟩; obtain ⟨hs9, hc9⟩ := Gr.boxed (w := w) (cs := [.int .i64 s, .int .i64 d, .int .i64 q, .int .i64 a, .int .i64 wo, .int .i64 fl, .int .i64 wi, .int .i64 ck, .int .i64 ur, .slice ao no co]) (t := 24) (w' := w9) (by (repeat (with_reducible first | exact Gr.refl _ | assumption | refine Gr.alloc ?_ _ | refine Gr.drew ?_ | refine Gr.drewN ?_ _ | refine Gr.trans ?_ (by assumption))); done))))
          go_ret
          exact ⟨by simp [isTCP, hc0, hc1, hc2, hc3], (by (repeat (with_reducible first | exact Gr.refl _ | assumption | refine Gr.alloc ?_ _ | refine Gr.drew ?_ | refine Gr.drewN ?_ _ | refine Gr.trans ?_ (by assumption))); done)⟩
        | true =>
          cases hc4 : (upto fl 511 : Bool) with
          | false =>
            go_enter Try.func10, Try.ntmps10
            go_wp2_with ((first | (go_at_call 39; refine (upTo_calls _ _ _).mono ?_; rintro e w9 ⟨rfl, rfl⟩) | (go_at_call 40; refine (areOptions_calls _ os _ (h.out.gr (by (repeat (with_reducible first | exact Gr.refl _ | assumption | refine Gr.alloc ?_ _ | refine Gr.drew ?_ | refine Gr.drewN ?_ _ | refine Gr.trans ?_ (by assumption))); done)) hf.out).mono ?_; rintro e w9 ⟨rfl, hg9⟩; obtain ⟨hs9, hc9⟩ := Gr.boxed (w := w) (cs := [.int .i64 s, .int .i64 d, .int .i64 q, .int .i64 a, .int .i64 wo, .int .i64 fl, .int .i64 wi, .int .i64 ck, .int .i64 ur, .slice ao no co]) (t := 24) (w' := w9) (by (repeat (with_reducible first | exact Gr.refl _ | assumption | refine Gr.alloc ?_ _ | refine Gr.drew ?_ | refine Gr.drewN ?_ _ | refine Gr.trans ?_ (by assumption))); done))))
            go_ret
            exact ⟨by simp [isTCP, hc0, hc1, hc2, hc3, hc4], (by (repeat (with_reducible first | exact Gr.refl _ | assumption | refine Gr.alloc ?_ _ | refine Gr.drew ?_ | refine Gr.drewN ?_ _ | refine Gr.trans ?_ (by assumption))); done)⟩
          | true =>
            cases hc5 : (upto wi 65535 : Bool) with
            | false =>
              go_enter Try.func10, Try.ntmps10
              go_wp2_with ((first | (go_at_call 39; refine (upTo_calls _ _ _).mono ?_; rintro e w9 ⟨rfl, rfl⟩) | (go_at_call 40; refine (areOptions_calls _ os _ (h.out.gr (by (repeat (with_reducible first | exact Gr.refl _ | assumption | refine Gr.alloc ?_ _ | refine Gr.drew ?_ | refine Gr.drewN ?_ _ | refine Gr.trans ?_ (by assumption))); done)) hf.out).mono ?_; rintro e w9 ⟨rfl, hg9⟩; obtain ⟨hs9, hc9⟩ := Gr.boxed (w := w) (cs := [.int .i64 s, .int .i64 d, .int .i64 q, .int .i64 a, .int .i64 wo, .int .i64 fl, .int .i64 wi, .int .i64 ck, .int .i64 ur, .slice ao no co]) (t := 24) (w' := w9) (by (repeat (with_reducible first | exact Gr.refl _ | assumption | refine Gr.alloc ?_ _ | refine Gr.drew ?_ | refine Gr.drewN ?_ _ | refine Gr.trans ?_ (by assumption))); done))))
              go_ret
              exact ⟨by simp [isTCP, hc0, hc1, hc2, hc3, hc4, hc5], (by (repeat (with_reducible first | exact Gr.refl _ | assumption | refine Gr.alloc ?_ _ | refine Gr.drew ?_ | refine Gr.drewN ?_ _ | refine Gr.trans ?_ (by assumption))); done)⟩
            | true =>
              cases hc6 : (upto ur 65535 : Bool) with
              | false =>
                go_enter Try.func10, Try.ntmps10
                go_wp2_with ((first | (go_at_call 39; refine (upTo_calls _ _ _).mono ?_; rintro e w9 ⟨rfl, rfl⟩) | (go_at_call 40; refine (areOptions_calls _ os _ (h.out.gr (by (repeat (with_reducible first | exact Gr.refl _ | assumption | refine Gr.alloc ?_ _ | refine Gr.drew ?_ | refine Gr.drewN ?_ _ | refine Gr.trans ?_ (by assumption))); done)) hf.out).mono ?_; rintro e w9 ⟨rfl, hg9⟩; obtain ⟨hs9, hc9⟩ := Gr.boxed (w := w) (cs := [.int .i64 s, .int .i64 d, .int .i64 q, .int .i64 a, .int .i64 wo, .int .i64 fl, .int .i64 wi, .int .i64 ck, .int .i64 ur, .slice ao no co]) (t := 24) (w' := w9) (by (repeat (with_reducible first | exact Gr.refl _ | assumption | refine Gr.alloc ?_ _ | refine Gr.drew ?_ | refine Gr.drewN ?_ _ | refine Gr.trans ?_ (by assumption))); done))))
                go_ret
                exact ⟨by simp [isTCP, hc0, hc1, hc2, hc3, hc4, hc5, hc6], (by (repeat (with_reducible first | exact Gr.refl _ | assumption | refine Gr.alloc ?_ _ | refine Gr.drew ?_ | refine Gr.drewN ?_ _ | refine Gr.trans ?_ (by assumption))); done)⟩
              | true =>
                cases hc7 : (optsOk 0 os : Bool) with
                | false =>
                  go_enter Try.func10, Try.ntmps10
                  go_wp2_with ((first | (go_at_call 39; refine (upTo_calls _ _ _).mono ?_; rintro e w9 ⟨rfl, rfl⟩) | (go_at_call 40; refine (areOptions_calls _ os _ (h.out.gr (by (repeat (with_reducible first | exact Gr.refl _ | assumption | refine Gr.alloc ?_ _ | refine Gr.drew ?_ | refine Gr.drewN ?_ _ | refine Gr.trans ?_ (by assumption))); done)) hf.out).mono ?_; rintro e w9 ⟨rfl, hg9⟩; obtain ⟨hs9, hc9⟩ := Gr.boxed (w := w) (cs := [.int .i64 s, .int .i64 d, .int .i64 q, .int .i64 a, .int .i64 wo, .int .i64 fl, .int .i64 wi, .int .i64 ck, .int .i64 ur, .slice ao no co]) (t := 24) (w' := w9) (by (repeat (with_reducible first | exact Gr.refl _ | assumption | refine Gr.alloc ?_ _ | refine Gr.drew ?_ | refine Gr.drewN ?_ _ | refine Gr.trans ?_ (by assumption))); done))))
                  go_ret
                  exact ⟨by simp [isTCP, hc0, hc1, hc2, hc3, hc4, hc5, hc6, hc7], (by (repeat (with_reducible first | exact Gr.refl _ | assumption | refine Gr.alloc ?_ _ | refine Gr.drew ?_ | refine Gr.drewN ?_ _ | refine Gr.trans ?_ (by assumption))); done)⟩
                | true =>
                  go_enter Try.func10, Try.ntmps10
                  go_wp2_with ((first | (go_at_call 39; refine (upTo_calls _ _ _).mono ?_; rintro e w9 ⟨rfl, rfl⟩) | (go_at_call 40; refine (areOptions_calls _ os _ (h.out.gr (by (repeat (with_reducible first | exact Gr.refl _ | assumption | refine Gr.alloc ?_ _ | refine Gr.drew ?_ | refine Gr.drewN ?_ _ | refine Gr.trans ?_ (by assumption))); done)) hf.out).mono ?_; rintro e w9 ⟨rfl, hg9⟩; obtain ⟨hs9, hc9⟩ := Gr.boxed (w := w) (cs := [.int .i64 s, .int .i64 d, .int .i64 q, .int .i64 a, .int .i64 wo, .int .i64 fl, .int .i64 wi, .int .i64 ck, .int .i64 ur, .slice ao no co]) (t := 24) (w' := w9) (by (repeat (with_reducible first | exact Gr.refl _ | assumption | refine Gr.alloc ?_ _ | refine Gr.drew ?_ | refine Gr.drewN ?_ _ | refine Gr.trans ?_ (by assumption))); done))))
                  go_ret
                  exact ⟨by simp [isTCP, hc0, hc1, hc2, hc3, hc4, hc5, hc6, hc7], (by (repeat (with_reducible first | exact Gr.refl _ | assumption | refine Gr.alloc ?_ _ | refine Gr.drew ?_ | refine Gr.drewN ?_ _ | refine Gr.trans ?_ (by assumption))); done)⟩

/-- the header's bytes -/
def tcpB (s d q a wo fl wi ck ur : Int) (os : List Opt) : List Int := [[sh s, sh d, lo q, lo a, sh (wo * 4096 + fl)].flatten, sh wi, sh ck, sh ur, optsB os].flatten

set_option maxRecDepth 100000 in
set_option maxHeartbeats 4000000 in
theorem tcpB_calls (s d q a wo fl wi ck ur : Int) (ao : Option Addr) (no co : Nat) (os : List Opt) (w : World) (h0 : IsOpts w (.slice ao no co) os) (hl : (optsRaw os).length ≤ 1000) (hw0 : 0 ≤ wo) (hw1 : wo ≤ 15) (hf0 : 0 ≤ fl) (hf1 : fl ≤ 4095) :
    Calls Try.prog 16 #[.agg #[.int .i64 s, .int .i64 d, .int .i64 q, .int .i64 a, .int .i64 wo, .int .i64 fl, .int .i64 wi, .int .i64 ck, .int .i64 ur, .slice ao no co]] w (RetB w (tcpB s d q a wo fl wi ck ur os)) := by
  have h := Lib.hid h0
  have HL := Lib.hid hl
  have HLB := Lib.hid (show (optsB os).length ≤ 1003 by unfold optsB; rw [List.length_append, List.length_replicate]; omega)
  have uw : IntKind.i64.wrap (wo * 4096) = wo * 4096 := w64 (by omega) (by omega)
  have eor : bits .or .i64 (wo * 4096) fl = wo * 4096 + fl := bor .i64 12 (by omega) hf0 (by omega) (by omega) (by rw [max_i64]; omega)
  obtain ⟨hd, hhd⟩ : ∃ hd, hd = [sh s, sh d, lo q, lo a, sh (wo * 4096 + fl)].flatten := ⟨_, rfl⟩
  have HHD := Lib.hid hhd
  have HHL := Lib.hid (show hd.length = 14 by rw [hhd]; simp [sh, lo])
  clear h0 hl hhd
  go_enter Try.func16, Try.ntmps16
  go_wp2_with fail
  go_region_held3 (fun w' => w'.cell? ⟨w.heap.size, 0, none⟩ = some (.int .i64 s) ∧ w'.cell? ⟨w.heap.size, 1, none⟩ = some (.int .i64 d) ∧ w'.cell? ⟨w.heap.size, 2, none⟩ = some (.int .i64 q) ∧ w'.cell? ⟨w.heap.size, 3, none⟩ = some (.int .i64 a) ∧ w'.cell? ⟨w.heap.size, 4, none⟩ = some (.int .i64 wo) ∧ w'.cell? ⟨w.heap.size, 5, none⟩ = some (.int .i64 fl)) (first | exact And.imp (Gr.cell hg9) (And.imp (Gr.cell hg9) (And.imp (Gr.cell hg9) (And.imp (Gr.cell hg9) (And.imp (Gr.cell hg9) (Gr.cell hg9))))) (by assumption) | exact And.imp (Gr.cell ((Gr.refl _).alloc _)) (And.imp (Gr.cell ((Gr.refl _).alloc _)) (And.imp (Gr.cell ((Gr.refl _).alloc _)) (And.imp (Gr.cell ((Gr.refl _).alloc _)) (And.imp (Gr.cell ((Gr.refl _).alloc _)) (Gr.cell ((Gr.refl _).alloc _)))))) (by assumption) | go_keep) (first
    | (go_at_call 46; refine (short_calls _ _).mono ?_; rintro e w9 ⟨_, _, _, rfl, ho9, hg9⟩; have hb9 := ho9.isB)
    | (go_at_call 47; refine (long_calls _ _).mono ?_; rintro e w9 ⟨_, _, _, rfl, ho9, hg9⟩; have hb9 := ho9.isB)
    | (go_at_call 15; refine (joined_calls _ [sh s, sh d, lo q, lo a, sh (wo * 4096 + fl)] _ (isBs_at _ _ [sh s, sh d, lo q, lo a, sh (wo * 4096 + fl)] _ (Reads.cons (IsB.gr (by assumption) (by (repeat (with_reducible first | exact Gr.refl _ | assumption | refine Gr.alloc ?_ _ | refine Gr.drew ?_ | refine Gr.drewN ?_ _ | refine Gr.trans ?_ (by assumption))); done)) (Reads.cons (IsB.gr (by assumption) (by (repeat (with_reducible first | exact Gr.refl _ | assumption | refine Gr.alloc ?_ _ | refine Gr.drew ?_ | refine Gr.drewN ?_ _ | refine Gr.trans ?_ (by assumption))); done)) (Reads.cons (IsB.gr (by assumption) (by (repeat (with_reducible first | exact Gr.refl _ | assumption | refine Gr.alloc ?_ _ | refine Gr.drew ?_ | refine Gr.drewN ?_ _ | refine Gr.trans ?_ (by assumption))); done)) (Reads.cons (IsB.gr (by assumption) (by (repeat (with_reducible first | exact Gr.refl _ | assumption | refine Gr.alloc ?_ _ | refine Gr.drew ?_ | refine Gr.drewN ?_ _ | refine Gr.trans ?_ (by assumption))); done)) (Reads.cons (IsB.gr (by assumption) (by (repeat (with_reducible first | exact Gr.refl _ | assumption | refine Gr.alloc ?_ _ | refine Gr.drew ?_ | refine Gr.drewN ?_ _ | refine Gr.trans ?_ (by assumption))); done)) (Reads.nil _)))))) _ rfl _ (by simp)) (by simp [sh, lo]) (by simp)).mono ?_; rintro e w9 ⟨_, _, _, rfl, ho9, hg9⟩; have hb9 := ho9.isB; rw [← HHD.out] at hb9; have HW := Lib.hid (show Gr w w9 from (by (repeat (with_reducible first | exact Gr.refl _ | assumption | refine Gr.alloc ?_ _ | refine Gr.drew ?_ | refine Gr.drewN ?_ _ | refine Gr.trans ?_ (by assumption))); done)); have HWB := Lib.hid (show Gr (w.alloc (.cells [.int .i64 s, .int .i64 d, .int .i64 q, .int .i64 a, .int .i64 wo, .int .i64 fl, .int .i64 wi, .int .i64 ck, .int .i64 ur, .slice ao no co].toArray 24)) w9 from (by (repeat (with_reducible first | exact Gr.refl _ | assumption | refine Gr.alloc ?_ _ | refine Gr.drew ?_ | refine Gr.drewN ?_ _ | refine Gr.trans ?_ (by assumption))); done))))
  all_goals go_wp2_with fail
  all_goals
    have hcB := (Gr.boxed HWB.out).2
    have k6 := hcB 6
    have k7 := hcB 7
    have k8 := hcB 8
    have k9 := hcB 9
    clear hcB
    have HBD := Lib.hid hb9
    clear hg9 ho9
    go_region_held3 (fun w' => w'.cell? ⟨w.heap.size, 6, none⟩ = some (.int .i64 wi) ∧ w'.cell? ⟨w.heap.size, 7, none⟩ = some (.int .i64 ck) ∧ w'.cell? ⟨w.heap.size, 8, none⟩ = some (.int .i64 ur) ∧ w'.cell? ⟨w.heap.size, 9, none⟩ = some (.slice ao no co)) (first | exact ⟨k6, k7, k8, k9⟩ | exact And.imp (Gr.cell hg8) (And.imp (Gr.cell hg8) (And.imp (Gr.cell hg8) (Gr.cell hg8))) (by assumption) | exact And.imp (Gr.cell ((Gr.refl _).alloc _)) (And.imp (Gr.cell ((Gr.refl _).alloc _)) (And.imp (Gr.cell ((Gr.refl _).alloc _)) (Gr.cell ((Gr.refl _).alloc _)))) (by assumption) | go_keep) (first
      | (go_at_call 46; refine (short_calls _ _).mono ?_; rintro e w8 ⟨_, _, _, rfl, ho8, hg8⟩; have hb9 := ho8.isB)
      | (go_at_call 41; refine (options_calls _ os _ (h.out.gr (HW.out.trans (by (repeat (with_reducible first | exact Gr.refl _ | assumption | refine Gr.alloc ?_ _ | refine Gr.drew ?_ | refine Gr.drewN ?_ _ | refine Gr.trans ?_ (by assumption))); done))) (by have := HL.out; omega)).mono ?_; rintro e w8 ⟨_, _, _, rfl, ho8, hg8⟩; have hb9 := ho8.isB)
      | (go_at_call 15; refine (joined_calls _ [hd, sh wi, sh ck, sh ur, optsB os] _ (isBs_at _ _ [hd, sh wi, sh ck, sh ur, optsB os] _ (Reads.cons (IsB.gr (by assumption) (by (repeat (with_reducible first | exact Gr.refl _ | assumption | refine Gr.alloc ?_ _ | refine Gr.drew ?_ | refine Gr.drewN ?_ _ | refine Gr.trans ?_ (by assumption))); done)) (Reads.cons (IsB.gr (by assumption) (by (repeat (with_reducible first | exact Gr.refl _ | assumption | refine Gr.alloc ?_ _ | refine Gr.drew ?_ | refine Gr.drewN ?_ _ | refine Gr.trans ?_ (by assumption))); done)) (Reads.cons (IsB.gr (by assumption) (by (repeat (with_reducible first | exact Gr.refl _ | assumption | refine Gr.alloc ?_ _ | refine Gr.drew ?_ | refine Gr.drewN ?_ _ | refine Gr.trans ?_ (by assumption))); done)) (Reads.cons (IsB.gr (by assumption) (by (repeat (with_reducible first | exact Gr.refl _ | assumption | refine Gr.alloc ?_ _ | refine Gr.drew ?_ | refine Gr.drewN ?_ _ | refine Gr.trans ?_ (by assumption))); done)) (Reads.cons (IsB.gr (by assumption) (by (repeat (with_reducible first | exact Gr.refl _ | assumption | refine Gr.alloc ?_ _ | refine Gr.drew ?_ | refine Gr.drewN ?_ _ | refine Gr.trans ?_ (by assumption))); done)) (Reads.nil _)))))) _ rfl _ (by simp)) (by have := HHL.out; have := HLB.out; simp [sh]; omega) (by simp)).mono ?_; rintro e w8 ⟨_, _, _, rfl, ho8, hg8⟩))
    all_goals go_wp2
    all_goals (go_ret; unfold tcpB; rw [← HHD.out]; exact RetB.after (HW.out.trans (by (repeat (with_reducible first | exact Gr.refl _ | assumption | refine Gr.alloc ?_ _ | refine Gr.drew ?_ | refine Gr.drewN ?_ _ | refine Gr.trans ?_ (by assumption))); done)) ho8 hg8)

end Go.Proofs.Ytdpffedmgmllbaa
