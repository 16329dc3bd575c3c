/-
  The law FnNeighborShort, at the type 133.
-/
import Derived.Test.YtoopkfnkmaaieaaLawNbS0
import Derived.Deep.DeepCutAuto
namespace Go.Proofs.Ytoopkfnkmaaieaa
open Go.RowKit

set_option linter.unusedSimpArgs false in
set_option linter.unusedVariables false in
set_option maxRecDepth 100000 in
set_option maxHeartbeats 4000000 in
theorem lawNbSRS_calls (a1 : Option Addr) (n1 c1 : Nat) (a2 : Option Addr) (n2 c2 : Nat) (ao : Option Addr) (no co : Nat) (os : List Opt) (k : Int) (w : World) (h1 : IsB w (.slice a1 n1 c1) []) (h2 : IsB w (.slice a2 n2 c2) []) (h0 : IsOpts w (.slice ao no co) os) (hz : zz17 [] [] os = true) (hi : (unitsOk os && nbOk  133  0  0  0  0  0 [] []) = true)  :
    Calls Try.prog 11 #[.agg #[.int .i64 133, .int .i64 0, .int .i64 0, .int .i64 0, .int .i64 0, .int .i64 0, .slice a1 n1 c1, .slice a2 n2 c2, .slice ao no co], .int .i64 k] w fun e w' => e = .returned (.bool true) ∧ Gr w w' := by
  have HO := Lib.hid h0
  clear h0
  have X9 := Lib.hid (show ∀ x ∈ os, x.data.length ≤ 2147483647 from (fitB_iff.1 (by simp only [zz17, Bool.and_eq_true] at hz; exact hz.2)).2)
  obtain ⟨BY, hBY⟩ : ∃ BY, BY = [lo 0, [], [], unitsB []].flatten := ⟨_, rfl⟩
  obtain ⟨q0, q1, q5, q6⟩ := n0_at [] [] (unitsB []) BY hBY 0 (by first | omega | simp) 0 (by first | omega | simp)
  have qu : (unitsB ([] : List Opt)).length = 0 := rfl
  have XL := Lib.hid (show BY.length = 4 ∧ BY.drop 4 = unitsB [] ∧ (unitsB ([] : List Opt)).length ≤ 20000 ∧ ([] : List Int).length ≤ 100 ∧ ([] : List Int).length ≤ 100 from ⟨by omega, q5, by omega, by first | omega | simp, by first | omega | simp⟩)
  have HBY := Lib.hid hBY
  have X8 := Lib.hid (show ([] : List Int).length ≤ 2147483647 ∧ ([] : List Int).length ≤ 2147483647 from ⟨by first | omega | simp, by first | omega | simp⟩)
  clear hBY q0 q1 q5 q6 qu
  cases hs : shorterN BY k with
  | false =>
    have HSH := Lib.hid hs
    clear hs
    go_enter Try.func11, Try.ntmps11
    go_upto_region 5 with (first
      | (go_at_call 36; refine (zz17_calls _ _ _ _ _ _ _ _ _ _ _ _ _ _ _ [] [] os _ (IsB.gr (by assumption) (by (repeat (with_reducible first | exact Gr.refl _ | assumption | refine Gr.alloc ?_ _ | refine Gr.drew ?_ | refine Gr.drewN ?_ _ | refine Gr.trans ?_ (by assumption))); done)) (IsB.gr (by assumption) (by (repeat (with_reducible first | exact Gr.refl _ | assumption | refine Gr.alloc ?_ _ | refine Gr.drew ?_ | refine Gr.drewN ?_ _ | refine Gr.trans ?_ (by assumption))); done)) (HO.out.gr (by (repeat (with_reducible first | exact Gr.refl _ | assumption | refine Gr.alloc ?_ _ | refine Gr.drew ?_ | refine Gr.drewN ?_ _ | refine Gr.trans ?_ (by assumption))); done))).mono ?_; rintro e w9 ⟨rfl, hg9⟩; rw [hz]; obtain ⟨hs9, hc9⟩ := Gr.boxed (w := w) (cs := [.int .i64 133, .int .i64 0, .int .i64 0, .int .i64 0, .int .i64 0, .int .i64 0, .slice a1 n1 c1, .slice a2 n2 c2, .slice ao no co]) (t := 60) (w' := w9) (by (repeat (with_reducible first | exact Gr.refl _ | assumption | refine Gr.alloc ?_ _ | refine Gr.drew ?_ | refine Gr.drewN ?_ _ | refine Gr.trans ?_ (by assumption))); done))
      | (go_at_call 37; refine (isNeighbor_calls _ _ _ _ _ _ _ _ _ _ _ _ _ _ _ [] [] os _ (IsB.gr (by assumption) (by (repeat (with_reducible first | exact Gr.refl _ | assumption | refine Gr.alloc ?_ _ | refine Gr.drew ?_ | refine Gr.drewN ?_ _ | refine Gr.trans ?_ (by assumption))); done)) (IsB.gr (by assumption) (by (repeat (with_reducible first | exact Gr.refl _ | assumption | refine Gr.alloc ?_ _ | refine Gr.drew ?_ | refine Gr.drewN ?_ _ | refine Gr.trans ?_ (by assumption))); done)) (HO.out.gr (by (repeat (with_reducible first | exact Gr.refl _ | assumption | refine Gr.alloc ?_ _ | refine Gr.drew ?_ | refine Gr.drewN ?_ _ | refine Gr.trans ?_ (by assumption))); done)) X9.out X8.out.1 X8.out.2).mono ?_; rintro e wi ⟨rfl, hgi⟩; rw [hi]; have HGB := Lib.hid (show Gr (w.alloc (.cells [.int .i64 133, .int .i64 0, .int .i64 0, .int .i64 0, .int .i64 0, .int .i64 0, .slice a1 n1 c1, .slice a2 n2 c2, .slice ao no co].toArray 60)) wi from (by (repeat (with_reducible first | exact Gr.refl _ | assumption | refine Gr.alloc ?_ _ | refine Gr.drew ?_ | refine Gr.drewN ?_ _ | refine Gr.trans ?_ (by assumption))); done)); obtain ⟨xi, hxi, rfl⟩ := one_row (heap_alloc_new w (.cells [.int .i64 133, .int .i64 0, .int .i64 0, .int .i64 0, .int .i64 0, .int .i64 0, .slice a1 n1 c1, .slice a2 n2 c2, .slice ao no co].toArray 60)) HGB.out))
    have GN := Lib.hid (show Gr w (rowW xi w.heap.size [.int .i64 133, .int .i64 0, .int .i64 0, .int .i64 0, .int .i64 0, .int .i64 0, .slice a1 n1 c1, .slice a2 n2 c2, .slice none 0 0] 60) from (((Gr.refl w).alloc _).trans HGB.out).row (Nat.le_refl _))
    have Y1 := Lib.hid (h1.gr GN.out)
    have Y2 := Lib.hid (h2.gr GN.out)
    clear HGB h1 h2
    go_wp2_with (first | (go_at_call 39; refine (nbB0_calls _ _ _ _ _ _ _ _ _ _ _ _ _ _ _ [] [] [] _ (Y1.out.gr (by (repeat (with_reducible first | exact Gr.refl _ | assumption | refine Gr.alloc ?_ _ | refine Gr.drew ?_ | refine Gr.drewN ?_ _ | refine Gr.trans ?_ (by assumption))); done)) (Y2.out.gr (by (repeat (with_reducible first | exact Gr.refl _ | assumption | refine Gr.alloc ?_ _ | refine Gr.drew ?_ | refine Gr.drewN ?_ _ | refine Gr.trans ?_ (by assumption))); done)) isOpts_nil (by omega) (by omega) XL.out.2.2.1 XL.out.2.2.2.1 XL.out.2.2.2.2).mono ?_; rintro e w7 ⟨ae, ne, ce, rfl, ho7, hg7⟩; have hb7 := ho7.isB; rw [← HBY.out] at hb7; clear ho7) | (go_at_call 22; refine (shorterN_calls _ _ _ _ BY _ (IsB.gr hb7 (by (repeat (with_reducible first | exact Gr.refl _ | assumption | refine Gr.alloc ?_ _ | refine Gr.drew ?_ | refine Gr.drewN ?_ _ | refine Gr.trans ?_ (by assumption))); done))).mono ?_; rintro e wS ⟨rfl, hgS⟩; rw [HSH.out]))
    go_ret
    exact ⟨rfl, GN.out.trans (by (repeat (with_reducible first | exact Gr.refl _ | assumption | refine Gr.alloc ?_ _ | refine Gr.drew ?_ | refine Gr.drewN ?_ _ | refine Gr.trans ?_ (by assumption))); done)⟩
  | true =>
    have hk := hs
    simp only [shorterN, Bool.and_eq_true, decide_eq_true_eq] at hk
    have XN := Lib.hid (show k = (k.toNat : Int) by omega)
    have XM := Lib.hid (show k.toNat ≤ BY.length by omega)
    have XS := Lib.hid (show (BY.take k.toNat).length < 4 by rw [List.length_take]; have := XL.out.1; omega)
    obtain ⟨i, hi0, hz0, hz1, hz2⟩ := info_parts info_u8
    have XI := Lib.hid (And.intro hi0 hz1)
    clear hi0 hz0 hz1 hz2 hk
    have HSH := Lib.hid hs
    clear hs
    go_enter Try.func11, Try.ntmps11
    go_upto_region 5 with (first
      | (go_at_call 36; refine (zz17_calls _ _ _ _ _ _ _ _ _ _ _ _ _ _ _ [] [] os _ (IsB.gr (by assumption) (by (repeat (with_reducible first | exact Gr.refl _ | assumption | refine Gr.alloc ?_ _ | refine Gr.drew ?_ | refine Gr.drewN ?_ _ | refine Gr.trans ?_ (by assumption))); done)) (IsB.gr (by assumption) (by (repeat (with_reducible first | exact Gr.refl _ | assumption | refine Gr.alloc ?_ _ | refine Gr.drew ?_ | refine Gr.drewN ?_ _ | refine Gr.trans ?_ (by assumption))); done)) (HO.out.gr (by (repeat (with_reducible first | exact Gr.refl _ | assumption | refine Gr.alloc ?_ _ | refine Gr.drew ?_ | refine Gr.drewN ?_ _ | refine Gr.trans ?_ (by assumption))); done))).mono ?_; rintro e w9 ⟨rfl, hg9⟩; rw [hz]; obtain ⟨hs9, hc9⟩ := Gr.boxed (w := w) (cs := [.int .i64 133, .int .i64 0, .int .i64 0, .int .i64 0, .int .i64 0, .int .i64 0, .slice a1 n1 c1, .slice a2 n2 c2, .slice ao no co]) (t := 60) (w' := w9) (by (repeat (with_reducible first | exact Gr.refl _ | assumption | refine Gr.alloc ?_ _ | refine Gr.drew ?_ | refine Gr.drewN ?_ _ | refine Gr.trans ?_ (by assumption))); done))
      | (go_at_call 37; refine (isNeighbor_calls _ _ _ _ _ _ _ _ _ _ _ _ _ _ _ [] [] os _ (IsB.gr (by assumption) (by (repeat (with_reducible first | exact Gr.refl _ | assumption | refine Gr.alloc ?_ _ | refine Gr.drew ?_ | refine Gr.drewN ?_ _ | refine Gr.trans ?_ (by assumption))); done)) (IsB.gr (by assumption) (by (repeat (with_reducible first | exact Gr.refl _ | assumption | refine Gr.alloc ?_ _ | refine Gr.drew ?_ | refine Gr.drewN ?_ _ | refine Gr.trans ?_ (by assumption))); done)) (HO.out.gr (by (repeat (with_reducible first | exact Gr.refl _ | assumption | refine Gr.alloc ?_ _ | refine Gr.drew ?_ | refine Gr.drewN ?_ _ | refine Gr.trans ?_ (by assumption))); done)) X9.out X8.out.1 X8.out.2).mono ?_; rintro e wi ⟨rfl, hgi⟩; rw [hi]; have HGB := Lib.hid (show Gr (w.alloc (.cells [.int .i64 133, .int .i64 0, .int .i64 0, .int .i64 0, .int .i64 0, .int .i64 0, .slice a1 n1 c1, .slice a2 n2 c2, .slice ao no co].toArray 60)) wi from (by (repeat (with_reducible first | exact Gr.refl _ | assumption | refine Gr.alloc ?_ _ | refine Gr.drew ?_ | refine Gr.drewN ?_ _ | refine Gr.trans ?_ (by assumption))); done)); obtain ⟨xi, hxi, rfl⟩ := one_row (heap_alloc_new w (.cells [.int .i64 133, .int .i64 0, .int .i64 0, .int .i64 0, .int .i64 0, .int .i64 0, .slice a1 n1 c1, .slice a2 n2 c2, .slice ao no co].toArray 60)) HGB.out))
    have GN := Lib.hid (show Gr w (rowW xi w.heap.size [.int .i64 133, .int .i64 0, .int .i64 0, .int .i64 0, .int .i64 0, .int .i64 0, .slice a1 n1 c1, .slice a2 n2 c2, .slice none 0 0] 60) from (((Gr.refl w).alloc _).trans HGB.out).row (Nat.le_refl _))
    have Y1 := Lib.hid (h1.gr GN.out)
    have Y2 := Lib.hid (h2.gr GN.out)
    clear HGB h1 h2
    go_upto_region 9 with (first | (go_at_call 39; refine (nbB0_calls _ _ _ _ _ _ _ _ _ _ _ _ _ _ _ [] [] [] _ (Y1.out.gr (by (repeat (with_reducible first | exact Gr.refl _ | assumption | refine Gr.alloc ?_ _ | refine Gr.drew ?_ | refine Gr.drewN ?_ _ | refine Gr.trans ?_ (by assumption))); done)) (Y2.out.gr (by (repeat (with_reducible first | exact Gr.refl _ | assumption | refine Gr.alloc ?_ _ | refine Gr.drew ?_ | refine Gr.drewN ?_ _ | refine Gr.trans ?_ (by assumption))); done)) isOpts_nil (by omega) (by omega) XL.out.2.2.1 XL.out.2.2.2.1 XL.out.2.2.2.2).mono ?_; rintro e w7 ⟨ae, ne, ce, rfl, ho7, hg7⟩; have hb7 := ho7.isB; rw [← HBY.out] at hb7; clear ho7) | (go_at_call 22; refine (shorterN_calls _ _ _ _ BY _ (IsB.gr hb7 (by (repeat (with_reducible first | exact Gr.refl _ | assumption | refine Gr.alloc ?_ _ | refine Gr.drew ?_ | refine Gr.drewN ?_ _ | refine Gr.trans ?_ (by assumption))); done))).mono ?_; rintro e wS ⟨rfl, hgS⟩; rw [HSH.out]))
    have cB := Gr.cell hgS (Gr.cell hg7 (rowW_cell (cs := [.int .i64 133, .int .i64 0, .int .i64 0, .int .i64 0, .int .i64 0, .int .i64 0, .slice a1 n1 c1, .slice a2 n2 c2, .slice none 0 0]) (e := 60) hxi 0))
    have neB : w.heap.size ≠ wS.heap.size := Nat.ne_of_lt (Nat.lt_of_lt_of_le (show w.heap.size < (rowW xi w.heap.size [.int .i64 133, .int .i64 0, .int .i64 0, .int .i64 0, .int .i64 0, .int .i64 0, .slice a1 n1 c1, .slice a2 n2 c2, .slice none 0 0] 60).heap.size by rw [rowW_size]; exact hxi) (Nat.le_trans hg7.size hgS.size))
    have GS := Lib.hid (GN.out.trans (hg7.trans hgS))
    have hbS := hb7.gr hgS
    have HBS := Lib.hid hbS
    obtain ⟨ak, nk, ck', hcut, -, hvs⟩ := hbS.cutH (P := Try.prog) 25 5 i Try.underlying25 XI.out.1 XI.out.2 k k.toNat XN.out XM.out
    go_cut [6, 7] (fun t6 t7 wx => t7 = .bool false ∧ Gr wS wx)
    case first =>
      go_region_held3 (fun w' => w'.cell? ⟨w.heap.size, 0, none⟩ = some (.int .i64 133)) (first | exact cB | exact Gr.cell hg8 (by assumption) | exact Gr.cell ((Gr.refl _).alloc _) (by assumption) | exact rowW_swap neB (by assumption) | exact Gr.cell (((Gr.refl wS).drew.trans hg8).alloc _) cB | go_keep) (first
        | (go_at_call 38; refine (readSRS_calls _ (BY.take k.toNat) _ (IsB.gr hcut (by (repeat (with_reducible first | exact Gr.refl _ | assumption | refine Gr.alloc ?_ _ | refine Gr.drew ?_ | refine Gr.drewN ?_ _ | refine Gr.trans ?_ (by assumption))); done)) XS.out).mono ?_; rintro e w8 ⟨rfl, hg8⟩; first | obtain ⟨y8, hy8, rfl⟩ := one_row (A := wS.heap.size) (heap_gr (w := wS.alloc (.cells #[.int .i64 0, .int .i64 0, .int .i64 0, .int .i64 0, .int .i64 0, .int .i64 0, .slice none 0 0, .slice none 0 0, .slice none 0 0] 60)) (Gr.refl _) (heap_alloc_new wS _)) hg8 | obtain ⟨y8, hy8, rfl⟩ := one_row (A := wS.heap.size) (heap_gr (w := wS.alloc (.cells #[.int .i64 0, .int .i64 0, .int .i64 0, .int .i64 0, .int .i64 0, .int .i64 0, .slice none 0 0, .slice none 0 0, .slice none 0 0] 60)) (Gr.refl _).drew (heap_alloc_new wS _)) hg8 | skip))
      all_goals (go_wp2_with fail; go_meet)
      all_goals first
        | exact ⟨rfl, (((Gr.refl wS).drew.trans hg8).alloc _)⟩
        | exact ⟨rfl, ((((Gr.refl wS).alloc _).drew.trans hg8).row (Nat.le_refl _))⟩
    case rest =>
    obtain ⟨rfl, hgc⟩ := hcut
    have cC := Gr.cell hgc cB
    have cC : wc.cell? ⟨w.heap.size, 0, none⟩ = some (.int .i64 133) := cC
    have hb7' := HBS.out.gr hgc
    have GC := Lib.hid (GS.out.trans hgc)
    go_wp2_with (go_at_call 38; refine (readRS_calls _ BY [] _ (IsB.gr hb7' (by (repeat (with_reducible first | exact Gr.refl _ | assumption | refine Gr.alloc ?_ _ | refine Gr.drew ?_ | refine Gr.drewN ?_ _ | refine Gr.trans ?_ (by assumption))); done)) (by have := XL.out.1; omega) XL.out.2.1 (by simp) (by simp) (by have := XL.out.1; omega)).mono ?_; rintro e w6 ⟨_, _, _, rfl, _, hg6⟩)
    go_ret
    exact ⟨by simp, GC.out.trans (by (repeat (with_reducible first | exact Gr.refl _ | assumption | refine Gr.alloc ?_ _ | refine Gr.drew ?_ | refine Gr.drewN ?_ _ | refine Gr.trans ?_ (by assumption))); done)⟩

end Go.Proofs.Ytoopkfnkmaaieaa
