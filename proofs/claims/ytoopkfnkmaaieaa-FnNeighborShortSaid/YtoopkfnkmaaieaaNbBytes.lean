/-
  A message of the discovery of neighbors as bytes.
-/
import Derived.Test.YtoopkfnkmaaieaaNbSpec
namespace Go.Proofs.Ytoopkfnkmaaieaa
open Go.RowKit

/-- the message's bytes, behind the first four -/
def nbB (ty ho fg lf re be : Int) (l1 l2 : List Int) (os : List Opt) : List Int :=
  if ty = 134 then [[ho, fg], sh lf, lo re, lo be, unitsB os].flatten
  else if ty = 136 then [[fg, 0, 0, 0], l1, unitsB os].flatten
  else [lo 0, l1, l2, unitsB os].flatten

set_option linter.unusedSimpArgs false in
set_option linter.unusedVariables false in
set_option maxRecDepth 100000 in
set_option maxHeartbeats 4000000 in
theorem nbB134_calls (ty ho fg lf re be : Int) (a1 : Option Addr) (n1 c1 : Nat) (a2 : Option Addr) (n2 c2 : Nat) (ao : Option Addr) (no co : Nat) (l1 l2 : List Int) (os : List Opt) (w : World) (h1 : IsB w (.slice a1 n1 c1) l1) (h2 : IsB w (.slice a2 n2 c2) l2) (h0 : IsOpts w (.slice ao no co) os) (hty : ty = 134) (hho : 0 ≤ ho ∧ ho ≤ 255) (hfg : 0 ≤ fg ∧ fg ≤ 255) (hl : (unitsB os).length ≤ 20000) (hl1 : l1.length ≤ 100) (hl2 : l2.length ≤ 100) :
    Calls Try.prog 39 #[.agg #[.int .i64 ty, .int .i64 ho, .int .i64 fg, .int .i64 lf, .int .i64 re, .int .i64 be, .slice a1 n1 c1, .slice a2 n2 c2, .slice ao no co]] w (RetB w ([[ho, fg], sh lf, lo re, lo be, unitsB os].flatten)) := by
  have h := Lib.hid h0
  have HL := Lib.hid hl
  have X1 := Lib.hid h1
  have X2 := Lib.hid h2
  have HN := Lib.hid (And.intro hl1 hl2)
  have z1 : IntKind.u8.wrap ho = ho := by simp [IntKind.wrap, IntKind.bits, IntKind.signed]; omega
  have z2 : IntKind.u8.wrap fg = fg := by simp [IntKind.wrap, IntKind.bits, IntKind.signed]; omega
  have HHO := Lib.hid hho
  have HFG := Lib.hid hfg
  clear hho hfg
  subst hty
  clear h0 hl h1 h2 hl1 hl2
  go_enter Try.func39, Try.ntmps39
  go_wp2_with fail
  go_region_held3 (fun w' => w'.cell? ⟨w.heap.size, 1, none⟩ = some (.int .i64 ho) ∧ w'.cell? ⟨w.heap.size, 2, none⟩ = some (.int .i64 fg) ∧ w'.cell? ⟨w.heap.size, 3, none⟩ = some (.int .i64 lf) ∧ w'.cell? ⟨w.heap.size, 4, none⟩ = some (.int .i64 re) ∧ w'.cell? ⟨w.heap.size, 5, none⟩ = some (.int .i64 be) ∧ w'.cell? ⟨w.heap.size, 8, none⟩ = some (.slice ao no co)) (first | exact And.imp (Gr.cell hg9) (And.imp (Gr.cell hg9) (And.imp (Gr.cell hg9) (And.imp (Gr.cell hg9) (And.imp (Gr.cell hg9) (Gr.cell hg9))))) (by assumption) | exact And.imp (Gr.cell hg8) (And.imp (Gr.cell hg8) (And.imp (Gr.cell hg8) (And.imp (Gr.cell hg8) (And.imp (Gr.cell hg8) (Gr.cell hg8))))) (by assumption) | exact And.imp (Gr.cell hg7) (And.imp (Gr.cell hg7) (And.imp (Gr.cell hg7) (And.imp (Gr.cell hg7) (And.imp (Gr.cell hg7) (Gr.cell hg7))))) (by assumption) | exact And.imp (Gr.cell ((Gr.refl _).alloc _)) (And.imp (Gr.cell ((Gr.refl _).alloc _)) (And.imp (Gr.cell ((Gr.refl _).alloc _)) (And.imp (Gr.cell ((Gr.refl _).alloc _)) (And.imp (Gr.cell ((Gr.refl _).alloc _)) (Gr.cell ((Gr.refl _).alloc _)))))) (by assumption) | go_keep) (first
    | (go_at_call 50; refine (short_calls _ _).mono ?_; rintro e w9 ⟨_, _, _, rfl, ho9, hg9⟩; have hb9 := ho9.isB)
    | (go_at_call 51; refine (long_calls _ _).mono ?_; rintro e w9 ⟨_, _, _, rfl, ho9, hg9⟩; have hb9 := ho9.isB)
    | (go_at_call 70; refine (units_calls _ os _ (h.out.gr (((Gr.refl w).alloc _).trans (by (repeat (with_reducible first | exact Gr.refl _ | assumption | refine Gr.alloc ?_ _ | refine Gr.drew ?_ | refine Gr.drewN ?_ _ | refine Gr.trans ?_ (by assumption))); done))) (by have := HL.out; omega)).mono ?_; rintro e w8 ⟨_, _, _, rfl, ho8, hg8⟩; have hb8 := ho8.isB)
    | (go_at_call 18; refine (joined_calls _ [[ho, fg], sh lf, lo re, lo be, unitsB os] _ (isBs_at _ _ [[ho, fg], sh lf, lo re, lo be, unitsB os] _ (Reads.cons (lit2_gr (by (repeat (with_reducible first | exact Gr.refl _ | assumption | refine Gr.alloc ?_ _ | refine Gr.drew ?_ | refine Gr.drewN ?_ _ | refine Gr.trans ?_ (by assumption))); done) (by simp) HHO.out HFG.out) (Reads.cons (IsB.gr (by assumption) (by (repeat (with_reducible first | exact Gr.refl _ | assumption | refine Gr.alloc ?_ _ | refine Gr.drew ?_ | refine Gr.drewN ?_ _ | refine Gr.trans ?_ (by assumption))); done)) (Reads.cons (IsB.gr (by assumption) (by (repeat (with_reducible first | exact Gr.refl _ | assumption | refine Gr.alloc ?_ _ | refine Gr.drew ?_ | refine Gr.drewN ?_ _ | refine Gr.trans ?_ (by assumption))); done)) (Reads.cons (IsB.gr (by assumption) (by (repeat (with_reducible first | exact Gr.refl _ | assumption | refine Gr.alloc ?_ _ | refine Gr.drew ?_ | refine Gr.drewN ?_ _ | refine Gr.trans ?_ (by assumption))); done)) (Reads.cons (IsB.gr hb8 (by (repeat (with_reducible first | exact Gr.refl _ | assumption | refine Gr.alloc ?_ _ | refine Gr.drew ?_ | refine Gr.drewN ?_ _ | refine Gr.trans ?_ (by assumption))); done)) (Reads.nil _)))))) _ rfl _ (by simp)) (by have := HL.out; have := HN.out; simp [sh, lo]; omega) (by simp)).mono ?_; rintro e w7 ⟨_, _, _, rfl, ho7, hg7⟩))
  all_goals go_wp2
  all_goals (go_ret; exact RetB.after (by (repeat (with_reducible first | exact Gr.refl _ | assumption | refine Gr.alloc ?_ _ | refine Gr.drew ?_ | refine Gr.drewN ?_ _ | refine Gr.trans ?_ (by assumption))); done) ho7 hg7)

set_option linter.unusedSimpArgs false in
set_option linter.unusedVariables false in
set_option maxRecDepth 100000 in
set_option maxHeartbeats 4000000 in
theorem nbB136_calls (ty ho fg lf re be : Int) (a1 : Option Addr) (n1 c1 : Nat) (a2 : Option Addr) (n2 c2 : Nat) (ao : Option Addr) (no co : Nat) (l1 l2 : List Int) (os : List Opt) (w : World) (h1 : IsB w (.slice a1 n1 c1) l1) (h2 : IsB w (.slice a2 n2 c2) l2) (h0 : IsOpts w (.slice ao no co) os) (hty : ty = 136) (hfg : 0 ≤ fg ∧ fg ≤ 255) (hl : (unitsB os).length ≤ 20000) (hl1 : l1.length ≤ 100) (hl2 : l2.length ≤ 100) :
    Calls Try.prog 39 #[.agg #[.int .i64 ty, .int .i64 ho, .int .i64 fg, .int .i64 lf, .int .i64 re, .int .i64 be, .slice a1 n1 c1, .slice a2 n2 c2, .slice ao no co]] w (RetB w ([[fg, 0, 0, 0], l1, unitsB os].flatten)) := by
  have h := Lib.hid h0
  have HL := Lib.hid hl
  have X1 := Lib.hid h1
  have X2 := Lib.hid h2
  have HN := Lib.hid (And.intro hl1 hl2)
  have z2 : IntKind.u8.wrap fg = fg := by simp [IntKind.wrap, IntKind.bits, IntKind.signed]; omega
  have HFG := Lib.hid hfg
  clear hfg
  subst hty
  clear h0 hl h1 h2 hl1 hl2
  go_enter Try.func39, Try.ntmps39
  go_wp2_with fail
  go_region_held3 (fun w' => w'.cell? ⟨w.heap.size, 2, none⟩ = some (.int .i64 fg) ∧ w'.cell? ⟨w.heap.size, 6, none⟩ = some (.slice a1 n1 c1) ∧ w'.cell? ⟨w.heap.size, 8, none⟩ = some (.slice ao no co)) (first | exact And.imp (Gr.cell hg9) (And.imp (Gr.cell hg9) (Gr.cell hg9)) (by assumption) | exact And.imp (Gr.cell hg8) (And.imp (Gr.cell hg8) (Gr.cell hg8)) (by assumption) | exact And.imp (Gr.cell hg7) (And.imp (Gr.cell hg7) (Gr.cell hg7)) (by assumption) | exact And.imp (Gr.cell ((Gr.refl _).alloc _)) (And.imp (Gr.cell ((Gr.refl _).alloc _)) (Gr.cell ((Gr.refl _).alloc _))) (by assumption) | go_keep) (first
    | (go_at_call 50; refine (short_calls _ _).mono ?_; rintro e w9 ⟨_, _, _, rfl, ho9, hg9⟩; have hb9 := ho9.isB)
    | (go_at_call 51; refine (long_calls _ _).mono ?_; rintro e w9 ⟨_, _, _, rfl, ho9, hg9⟩; have hb9 := ho9.isB)
    | (go_at_call 70; refine (units_calls _ os _ (h.out.gr (((Gr.refl w).alloc _).trans (by (repeat (with_reducible first | exact Gr.refl _ | assumption | refine Gr.alloc ?_ _ | refine Gr.drew ?_ | refine Gr.drewN ?_ _ | refine Gr.trans ?_ (by assumption))); done))) (by have := HL.out; omega)).mono ?_; rintro e w8 ⟨_, _, _, rfl, ho8, hg8⟩; have hb8 := ho8.isB)
    | (go_at_call 18; refine (joined_calls _ [[fg, 0, 0, 0], l1, unitsB os] _ (isBs_at _ _ [[fg, 0, 0, 0], l1, unitsB os] _ (Reads.cons (lit4_gr (by (repeat (with_reducible first | exact Gr.refl _ | assumption | refine Gr.alloc ?_ _ | refine Gr.drew ?_ | refine Gr.drewN ?_ _ | refine Gr.trans ?_ (by assumption))); done) (by simp) HFG.out (by omega) (by omega) (by omega)) (Reads.cons (IsB.gr X1.out (by (repeat (with_reducible first | exact Gr.refl _ | assumption | refine Gr.alloc ?_ _ | refine Gr.drew ?_ | refine Gr.drewN ?_ _ | refine Gr.trans ?_ (by assumption))); done)) (Reads.cons (IsB.gr hb8 (by (repeat (with_reducible first | exact Gr.refl _ | assumption | refine Gr.alloc ?_ _ | refine Gr.drew ?_ | refine Gr.drewN ?_ _ | refine Gr.trans ?_ (by assumption))); done)) (Reads.nil _)))) _ rfl _ (by simp)) (by have := HL.out; have := HN.out; simp; omega) (by simp)).mono ?_; rintro e w7 ⟨_, _, _, rfl, ho7, hg7⟩))
  all_goals go_wp2
  all_goals (go_ret; exact RetB.after (by (repeat (with_reducible first | exact Gr.refl _ | assumption | refine Gr.alloc ?_ _ | refine Gr.drew ?_ | refine Gr.drewN ?_ _ | refine Gr.trans ?_ (by assumption))); done) ho7 hg7)

set_option linter.unusedSimpArgs false in
set_option linter.unusedVariables false in
set_option maxRecDepth 100000 in
set_option maxHeartbeats 4000000 in
theorem nbB0_calls (ty ho fg lf re be : Int) (a1 : Option Addr) (n1 c1 : Nat) (a2 : Option Addr) (n2 c2 : Nat) (ao : Option Addr) (no co : Nat) (l1 l2 : List Int) (os : List Opt) (w : World) (h1 : IsB w (.slice a1 n1 c1) l1) (h2 : IsB w (.slice a2 n2 c2) l2) (h0 : IsOpts w (.slice ao no co) os) (hty : ty ≠ 134) (hty2 : ty ≠ 136) (hl : (unitsB os).length ≤ 20000) (hl1 : l1.length ≤ 100) (hl2 : l2.length ≤ 100) :
    Calls Try.prog 39 #[.agg #[.int .i64 ty, .int .i64 ho, .int .i64 fg, .int .i64 lf, .int .i64 re, .int .i64 be, .slice a1 n1 c1, .slice a2 n2 c2, .slice ao no co]] w (RetB w ([lo 0, l1, l2, unitsB os].flatten)) := by
  have h := Lib.hid h0
  have HL := Lib.hid hl
  have X1 := Lib.hid h1
  have X2 := Lib.hid h2
  have HN := Lib.hid (And.intro hl1 hl2)
  have t1 : (ty == 134) = false := beq_eq_false_iff_ne.2 hty
  have t2 : (ty == 136) = false := beq_eq_false_iff_ne.2 hty2
  clear h0 hl h1 h2 hl1 hl2
  go_enter Try.func39, Try.ntmps39
  go_wp2_with fail
  go_region_held3 (fun w' => w'.cell? ⟨w.heap.size, 6, none⟩ = some (.slice a1 n1 c1) ∧ w'.cell? ⟨w.heap.size, 7, none⟩ = some (.slice a2 n2 c2) ∧ w'.cell? ⟨w.heap.size, 8, none⟩ = some (.slice ao no co)) (first | exact And.imp (Gr.cell hg9) (And.imp (Gr.cell hg9) (Gr.cell hg9)) (by assumption) | exact And.imp (Gr.cell hg8) (And.imp (Gr.cell hg8) (Gr.cell hg8)) (by assumption) | exact And.imp (Gr.cell hg7) (And.imp (Gr.cell hg7) (Gr.cell hg7)) (by assumption) | exact And.imp (Gr.cell ((Gr.refl _).alloc _)) (And.imp (Gr.cell ((Gr.refl _).alloc _)) (Gr.cell ((Gr.refl _).alloc _))) (by assumption) | go_keep) (first
    | (go_at_call 50; refine (short_calls _ _).mono ?_; rintro e w9 ⟨_, _, _, rfl, ho9, hg9⟩; have hb9 := ho9.isB)
    | (go_at_call 51; refine (long_calls _ _).mono ?_; rintro e w9 ⟨_, _, _, rfl, ho9, hg9⟩; have hb9 := ho9.isB)
    | (go_at_call 70; refine (units_calls _ os _ (h.out.gr (((Gr.refl w).alloc _).trans (by (repeat (with_reducible first | exact Gr.refl _ | assumption | refine Gr.alloc ?_ _ | refine Gr.drew ?_ | refine Gr.drewN ?_ _ | refine Gr.trans ?_ (by assumption))); done))) (by have := HL.out; omega)).mono ?_; rintro e w8 ⟨_, _, _, rfl, ho8, hg8⟩; have hb8 := ho8.isB)
    | (go_at_call 18; refine (joined_calls _ [lo 0, l1, l2, unitsB os] _ (isBs_at _ _ [lo 0, l1, l2, unitsB os] _ (Reads.cons (IsB.gr hb9 (by (repeat (with_reducible first | exact Gr.refl _ | assumption | refine Gr.alloc ?_ _ | refine Gr.drew ?_ | refine Gr.drewN ?_ _ | refine Gr.trans ?_ (by assumption))); done)) (Reads.cons (IsB.gr X1.out (by (repeat (with_reducible first | exact Gr.refl _ | assumption | refine Gr.alloc ?_ _ | refine Gr.drew ?_ | refine Gr.drewN ?_ _ | refine Gr.trans ?_ (by assumption))); done)) (Reads.cons (IsB.gr X2.out (by (repeat (with_reducible first | exact Gr.refl _ | assumption | refine Gr.alloc ?_ _ | refine Gr.drew ?_ | refine Gr.drewN ?_ _ | refine Gr.trans ?_ (by assumption))); done)) (Reads.cons (IsB.gr hb8 (by (repeat (with_reducible first | exact Gr.refl _ | assumption | refine Gr.alloc ?_ _ | refine Gr.drew ?_ | refine Gr.drewN ?_ _ | refine Gr.trans ?_ (by assumption))); done)) (Reads.nil _))))) _ rfl _ (by simp)) (by have := HL.out; have := HN.out; simp [sh, lo]; omega) (by simp)).mono ?_; rintro e w7 ⟨_, _, _, rfl, ho7, hg7⟩))
  all_goals go_wp2
  all_goals (go_ret; exact RetB.after (by (repeat (with_reducible first | exact Gr.refl _ | assumption | refine Gr.alloc ?_ _ | refine Gr.drew ?_ | refine Gr.drewN ?_ _ | refine Gr.trans ?_ (by assumption))); done) ho7 hg7)

set_option maxRecDepth 100000 in
set_option maxHeartbeats 1000000 in
theorem sameNb_calls (ty ho fg lf re be : Int) (a1 : Option Addr) (n1 c1 : Nat) (a2 : Option Addr) (n2 c2 : Nat) (ao : Option Addr) (no co : Nat) (e1 : Option Addr) (p1 q1 : Nat) (e2 : Option Addr) (p2 q2 : Nat) (eo : Option Addr) (po qo : Nat) (l1 l2 : List Int) (os gs : List Opt) (w : World) (h1 : IsB w (.slice a1 n1 c1) l1) (h2 : IsB w (.slice a2 n2 c2) l2) (h0 : IsOpts w (.slice ao no co) os) (h1' : IsB w (.slice e1 p1 q1) l1) (h2' : IsB w (.slice e2 p2 q2) l2) (h0' : IsOpts w (.slice eo po qo) gs) (hal : Alike gs os) :
    Calls Try.prog 40 #[.agg #[.int .i64 ty, .int .i64 ho, .int .i64 fg, .int .i64 lf, .int .i64 re, .int .i64 be, .slice e1 p1 q1, .slice e2 p2 q2, .slice eo po qo], .agg #[.int .i64 ty, .int .i64 ho, .int .i64 fg, .int .i64 lf, .int .i64 re, .int .i64 be, .slice a1 n1 c1, .slice a2 n2 c2, .slice ao no co]] w fun e w' => e = .returned (.bool true) ∧ Gr w w' := by
  have HO := Lib.hid h0
  have HO' := Lib.hid h0'
  have HAL := Lib.hid hal
  clear h0 h0' hal
  go_enter Try.func40, Try.ntmps40
  go_wp2_with (first
      | (go_at_call 21; refine (same_calls _ _ _ _ _ (IsB.gr (by assumption) (by (repeat (with_reducible first | exact Gr.refl _ | assumption | refine Gr.alloc ?_ _ | refine Gr.drew ?_ | refine Gr.drewN ?_ _ | refine Gr.trans ?_ (by assumption))); done)) (IsB.gr (by assumption) (by (repeat (with_reducible first | exact Gr.refl _ | assumption | refine Gr.alloc ?_ _ | refine Gr.drew ?_ | refine Gr.drewN ?_ _ | refine Gr.trans ?_ (by assumption))); done))).mono ?_; rintro e w9 ⟨rfl, rfl⟩)
      | (go_at_call 58; refine (sameKinds_calls _ _ gs os _ (HO'.out.gr (by (repeat (with_reducible first | exact Gr.refl _ | assumption | refine Gr.alloc ?_ _ | refine Gr.drew ?_ | refine Gr.drewN ?_ _ | refine Gr.trans ?_ (by assumption))); done)) (HO.out.gr (by (repeat (with_reducible first | exact Gr.refl _ | assumption | refine Gr.alloc ?_ _ | refine Gr.drew ?_ | refine Gr.drewN ?_ _ | refine Gr.trans ?_ (by assumption))); done)) HAL.out).mono ?_; rintro e w9 ⟨rfl, hg9⟩))
  go_ret
  exact ⟨by simp, (by (repeat (with_reducible first | exact Gr.refl _ | assumption | refine Gr.alloc ?_ _ | refine Gr.drew ?_ | refine Gr.drewN ?_ _ | refine Gr.trans ?_ (by assumption))); done)⟩

end Go.Proofs.Ytoopkfnkmaaieaa
